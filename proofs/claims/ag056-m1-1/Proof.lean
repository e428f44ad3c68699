import JvmDerived
import JvmDerived.Pilot.@@N@@Statement
import JvmDerived.Pilot.@@N@@Code
set_option linter.unusedVariables false
set_option linter.unusedSimpArgs false
@@BLOCK:HandJ.lean.txt@@
@@BLOCK:SymMore.lean.txt@@
namespace Jvm.Pilot.@@N@@
open Jvm Jvm.ClassFile Sem Op Lib Jvm.Free Jvm.Stand Jvm.LawKit Jvm.RoadKit Bundle Jvm.Pilot.@@N@@.Jvm.D
theorem own_w {α : Type _} {P : α → Prop} {L : List α} (hw : ∀ d ∈ L, P d) (i : Nat) {w : α} (h : L[i]? = some w) : P w := hw w (List.mem_of_getElem? h)
theorem own_s46_22 {Z : State} {a0 : Array Value} (hw : ∀ d ∈ tables_1, d.before a0 Z = true) : Jvm.RoadKit.slotOf Z "com/example/saturation/saturation/OpenNode" "blocks" "I" ≠ Jvm.RoadKit.slotOf Z "com/example/saturation/saturation/OpenNode" "keys" "[I" := Jvm.RoadKit.slot_ne (Or.inl (own_w hw 46 rfl)) (Or.inl (own_w hw 22 rfl)) (by decide) (t := .int) (t' := (.array .int)) (by decide) (by decide)
theorem own_s29_22 {Z : State} {a0 : Array Value} (hw : ∀ d ∈ tables_1, d.before a0 Z = true) : Jvm.RoadKit.slotOf Z "com/example/saturation/saturation/OpenNode" "count" "I" ≠ Jvm.RoadKit.slotOf Z "com/example/saturation/saturation/OpenNode" "keys" "[I" := Jvm.RoadKit.slot_ne (Or.inl (own_w hw 29 rfl)) (Or.inl (own_w hw 22 rfl)) (by decide) (t := .int) (t' := (.array .int)) (by decide) (by decide)
theorem own_s20_22 {Z : State} {a0 : Array Value} (hw : ∀ d ∈ tables_1, d.before a0 Z = true) : Jvm.RoadKit.slotOf Z "com/example/saturation/saturation/OpenNode" "lastKey" "I" ≠ Jvm.RoadKit.slotOf Z "com/example/saturation/saturation/OpenNode" "keys" "[I" := Jvm.RoadKit.slot_ne (Or.inl (own_w hw 20 rfl)) (Or.inl (own_w hw 22 rfl)) (by decide) (t := .int) (t' := (.array .int)) (by decide) (by decide)
theorem own_s66_22 {Z : State} {a0 : Array Value} (hw : ∀ d ∈ tables_1, d.before a0 Z = true) : Jvm.RoadKit.slotOf Z "com/example/saturation/saturation/OpenNode" "lastPosition" "I" ≠ Jvm.RoadKit.slotOf Z "com/example/saturation/saturation/OpenNode" "keys" "[I" := Jvm.RoadKit.slot_ne (Or.inl (own_w hw 66 rfl)) (Or.inl (own_w hw 22 rfl)) (by decide) (t := .int) (t' := (.array .int)) (by decide) (by decide)
theorem own_s24_22 {Z : State} {a0 : Array Value} (hw : ∀ d ∈ tables_1, d.before a0 Z = true) : Jvm.RoadKit.slotOf Z "com/example/saturation/saturation/OpenNode" "slots" "[I" ≠ Jvm.RoadKit.slotOf Z "com/example/saturation/saturation/OpenNode" "keys" "[I" := Jvm.RoadKit.slot_ne (Or.inl (own_w hw 24 rfl)) (Or.inl (own_w hw 22 rfl)) (by decide) (t := (.array .int)) (t' := (.array .int)) (by decide) (by decide)
theorem own_s26_22 {Z : State} {a0 : Array Value} (hw : ∀ d ∈ tables_1, d.before a0 Z = true) : Jvm.RoadKit.slotOf Z "com/example/saturation/saturation/OpenNode" "children" "[I" ≠ Jvm.RoadKit.slotOf Z "com/example/saturation/saturation/OpenNode" "keys" "[I" := Jvm.RoadKit.slot_ne (Or.inl (own_w hw 26 rfl)) (Or.inl (own_w hw 22 rfl)) (by decide) (t := (.array .int)) (t' := (.array .int)) (by decide) (by decide)
theorem own_s33_22 {Z : State} {a0 : Array Value} (hw : ∀ d ∈ tables_1, d.before a0 Z = true) : Jvm.RoadKit.slotOf Z "com/example/saturation/saturation/OpenNode" "pending" "[[J" ≠ Jvm.RoadKit.slotOf Z "com/example/saturation/saturation/OpenNode" "keys" "[I" := Jvm.RoadKit.slot_ne (Or.inr (own_w hw 33 rfl)) (Or.inl (own_w hw 22 rfl)) (by decide) (t := (.array (.array .long))) (t' := (.array .int)) (by decide) (by decide)
theorem own_s35_22 {Z : State} {a0 : Array Value} (hw : ∀ d ∈ tables_1, d.before a0 Z = true) : Jvm.RoadKit.slotOf Z "com/example/saturation/saturation/OpenNode" "pendingCount" "[I" ≠ Jvm.RoadKit.slotOf Z "com/example/saturation/saturation/OpenNode" "keys" "[I" := Jvm.RoadKit.slot_ne (Or.inr (own_w hw 35 rfl)) (Or.inl (own_w hw 22 rfl)) (by decide) (t := (.array .int)) (t' := (.array .int)) (by decide) (by decide)
theorem own_s46_24 {Z : State} {a0 : Array Value} (hw : ∀ d ∈ tables_1, d.before a0 Z = true) : Jvm.RoadKit.slotOf Z "com/example/saturation/saturation/OpenNode" "blocks" "I" ≠ Jvm.RoadKit.slotOf Z "com/example/saturation/saturation/OpenNode" "slots" "[I" := Jvm.RoadKit.slot_ne (Or.inl (own_w hw 46 rfl)) (Or.inl (own_w hw 24 rfl)) (by decide) (t := .int) (t' := (.array .int)) (by decide) (by decide)
theorem own_s29_24 {Z : State} {a0 : Array Value} (hw : ∀ d ∈ tables_1, d.before a0 Z = true) : Jvm.RoadKit.slotOf Z "com/example/saturation/saturation/OpenNode" "count" "I" ≠ Jvm.RoadKit.slotOf Z "com/example/saturation/saturation/OpenNode" "slots" "[I" := Jvm.RoadKit.slot_ne (Or.inl (own_w hw 29 rfl)) (Or.inl (own_w hw 24 rfl)) (by decide) (t := .int) (t' := (.array .int)) (by decide) (by decide)
theorem own_s20_24 {Z : State} {a0 : Array Value} (hw : ∀ d ∈ tables_1, d.before a0 Z = true) : Jvm.RoadKit.slotOf Z "com/example/saturation/saturation/OpenNode" "lastKey" "I" ≠ Jvm.RoadKit.slotOf Z "com/example/saturation/saturation/OpenNode" "slots" "[I" := Jvm.RoadKit.slot_ne (Or.inl (own_w hw 20 rfl)) (Or.inl (own_w hw 24 rfl)) (by decide) (t := .int) (t' := (.array .int)) (by decide) (by decide)
theorem own_s66_24 {Z : State} {a0 : Array Value} (hw : ∀ d ∈ tables_1, d.before a0 Z = true) : Jvm.RoadKit.slotOf Z "com/example/saturation/saturation/OpenNode" "lastPosition" "I" ≠ Jvm.RoadKit.slotOf Z "com/example/saturation/saturation/OpenNode" "slots" "[I" := Jvm.RoadKit.slot_ne (Or.inl (own_w hw 66 rfl)) (Or.inl (own_w hw 24 rfl)) (by decide) (t := .int) (t' := (.array .int)) (by decide) (by decide)
theorem own_s22_24 {Z : State} {a0 : Array Value} (hw : ∀ d ∈ tables_1, d.before a0 Z = true) : Jvm.RoadKit.slotOf Z "com/example/saturation/saturation/OpenNode" "keys" "[I" ≠ Jvm.RoadKit.slotOf Z "com/example/saturation/saturation/OpenNode" "slots" "[I" := Jvm.RoadKit.slot_ne (Or.inl (own_w hw 22 rfl)) (Or.inl (own_w hw 24 rfl)) (by decide) (t := (.array .int)) (t' := (.array .int)) (by decide) (by decide)
theorem own_s26_24 {Z : State} {a0 : Array Value} (hw : ∀ d ∈ tables_1, d.before a0 Z = true) : Jvm.RoadKit.slotOf Z "com/example/saturation/saturation/OpenNode" "children" "[I" ≠ Jvm.RoadKit.slotOf Z "com/example/saturation/saturation/OpenNode" "slots" "[I" := Jvm.RoadKit.slot_ne (Or.inl (own_w hw 26 rfl)) (Or.inl (own_w hw 24 rfl)) (by decide) (t := (.array .int)) (t' := (.array .int)) (by decide) (by decide)
theorem own_s33_24 {Z : State} {a0 : Array Value} (hw : ∀ d ∈ tables_1, d.before a0 Z = true) : Jvm.RoadKit.slotOf Z "com/example/saturation/saturation/OpenNode" "pending" "[[J" ≠ Jvm.RoadKit.slotOf Z "com/example/saturation/saturation/OpenNode" "slots" "[I" := Jvm.RoadKit.slot_ne (Or.inr (own_w hw 33 rfl)) (Or.inl (own_w hw 24 rfl)) (by decide) (t := (.array (.array .long))) (t' := (.array .int)) (by decide) (by decide)
theorem own_s35_24 {Z : State} {a0 : Array Value} (hw : ∀ d ∈ tables_1, d.before a0 Z = true) : Jvm.RoadKit.slotOf Z "com/example/saturation/saturation/OpenNode" "pendingCount" "[I" ≠ Jvm.RoadKit.slotOf Z "com/example/saturation/saturation/OpenNode" "slots" "[I" := Jvm.RoadKit.slot_ne (Or.inr (own_w hw 35 rfl)) (Or.inl (own_w hw 24 rfl)) (by decide) (t := (.array .int)) (t' := (.array .int)) (by decide) (by decide)
theorem own_s46_26 {Z : State} {a0 : Array Value} (hw : ∀ d ∈ tables_1, d.before a0 Z = true) : Jvm.RoadKit.slotOf Z "com/example/saturation/saturation/OpenNode" "blocks" "I" ≠ Jvm.RoadKit.slotOf Z "com/example/saturation/saturation/OpenNode" "children" "[I" := Jvm.RoadKit.slot_ne (Or.inl (own_w hw 46 rfl)) (Or.inl (own_w hw 26 rfl)) (by decide) (t := .int) (t' := (.array .int)) (by decide) (by decide)
theorem own_s29_26 {Z : State} {a0 : Array Value} (hw : ∀ d ∈ tables_1, d.before a0 Z = true) : Jvm.RoadKit.slotOf Z "com/example/saturation/saturation/OpenNode" "count" "I" ≠ Jvm.RoadKit.slotOf Z "com/example/saturation/saturation/OpenNode" "children" "[I" := Jvm.RoadKit.slot_ne (Or.inl (own_w hw 29 rfl)) (Or.inl (own_w hw 26 rfl)) (by decide) (t := .int) (t' := (.array .int)) (by decide) (by decide)
theorem own_s20_26 {Z : State} {a0 : Array Value} (hw : ∀ d ∈ tables_1, d.before a0 Z = true) : Jvm.RoadKit.slotOf Z "com/example/saturation/saturation/OpenNode" "lastKey" "I" ≠ Jvm.RoadKit.slotOf Z "com/example/saturation/saturation/OpenNode" "children" "[I" := Jvm.RoadKit.slot_ne (Or.inl (own_w hw 20 rfl)) (Or.inl (own_w hw 26 rfl)) (by decide) (t := .int) (t' := (.array .int)) (by decide) (by decide)
theorem own_s66_26 {Z : State} {a0 : Array Value} (hw : ∀ d ∈ tables_1, d.before a0 Z = true) : Jvm.RoadKit.slotOf Z "com/example/saturation/saturation/OpenNode" "lastPosition" "I" ≠ Jvm.RoadKit.slotOf Z "com/example/saturation/saturation/OpenNode" "children" "[I" := Jvm.RoadKit.slot_ne (Or.inl (own_w hw 66 rfl)) (Or.inl (own_w hw 26 rfl)) (by decide) (t := .int) (t' := (.array .int)) (by decide) (by decide)
theorem own_s22_26 {Z : State} {a0 : Array Value} (hw : ∀ d ∈ tables_1, d.before a0 Z = true) : Jvm.RoadKit.slotOf Z "com/example/saturation/saturation/OpenNode" "keys" "[I" ≠ Jvm.RoadKit.slotOf Z "com/example/saturation/saturation/OpenNode" "children" "[I" := Jvm.RoadKit.slot_ne (Or.inl (own_w hw 22 rfl)) (Or.inl (own_w hw 26 rfl)) (by decide) (t := (.array .int)) (t' := (.array .int)) (by decide) (by decide)
theorem own_s24_26 {Z : State} {a0 : Array Value} (hw : ∀ d ∈ tables_1, d.before a0 Z = true) : Jvm.RoadKit.slotOf Z "com/example/saturation/saturation/OpenNode" "slots" "[I" ≠ Jvm.RoadKit.slotOf Z "com/example/saturation/saturation/OpenNode" "children" "[I" := Jvm.RoadKit.slot_ne (Or.inl (own_w hw 24 rfl)) (Or.inl (own_w hw 26 rfl)) (by decide) (t := (.array .int)) (t' := (.array .int)) (by decide) (by decide)
theorem own_s33_26 {Z : State} {a0 : Array Value} (hw : ∀ d ∈ tables_1, d.before a0 Z = true) : Jvm.RoadKit.slotOf Z "com/example/saturation/saturation/OpenNode" "pending" "[[J" ≠ Jvm.RoadKit.slotOf Z "com/example/saturation/saturation/OpenNode" "children" "[I" := Jvm.RoadKit.slot_ne (Or.inr (own_w hw 33 rfl)) (Or.inl (own_w hw 26 rfl)) (by decide) (t := (.array (.array .long))) (t' := (.array .int)) (by decide) (by decide)
theorem own_s35_26 {Z : State} {a0 : Array Value} (hw : ∀ d ∈ tables_1, d.before a0 Z = true) : Jvm.RoadKit.slotOf Z "com/example/saturation/saturation/OpenNode" "pendingCount" "[I" ≠ Jvm.RoadKit.slotOf Z "com/example/saturation/saturation/OpenNode" "children" "[I" := Jvm.RoadKit.slot_ne (Or.inr (own_w hw 35 rfl)) (Or.inl (own_w hw 26 rfl)) (by decide) (t := (.array .int)) (t' := (.array .int)) (by decide) (by decide)
theorem own_s29_46 {Z : State} {a0 : Array Value} (hw : ∀ d ∈ tables_1, d.before a0 Z = true) : Jvm.RoadKit.slotOf Z "com/example/saturation/saturation/OpenNode" "count" "I" ≠ Jvm.RoadKit.slotOf Z "com/example/saturation/saturation/OpenNode" "blocks" "I" := Jvm.RoadKit.slot_ne (Or.inl (own_w hw 29 rfl)) (Or.inl (own_w hw 46 rfl)) (by decide) (t := .int) (t' := .int) (by decide) (by decide)
theorem own_s20_46 {Z : State} {a0 : Array Value} (hw : ∀ d ∈ tables_1, d.before a0 Z = true) : Jvm.RoadKit.slotOf Z "com/example/saturation/saturation/OpenNode" "lastKey" "I" ≠ Jvm.RoadKit.slotOf Z "com/example/saturation/saturation/OpenNode" "blocks" "I" := Jvm.RoadKit.slot_ne (Or.inl (own_w hw 20 rfl)) (Or.inl (own_w hw 46 rfl)) (by decide) (t := .int) (t' := .int) (by decide) (by decide)
theorem own_s66_46 {Z : State} {a0 : Array Value} (hw : ∀ d ∈ tables_1, d.before a0 Z = true) : Jvm.RoadKit.slotOf Z "com/example/saturation/saturation/OpenNode" "lastPosition" "I" ≠ Jvm.RoadKit.slotOf Z "com/example/saturation/saturation/OpenNode" "blocks" "I" := Jvm.RoadKit.slot_ne (Or.inl (own_w hw 66 rfl)) (Or.inl (own_w hw 46 rfl)) (by decide) (t := .int) (t' := .int) (by decide) (by decide)
theorem own_s22_46 {Z : State} {a0 : Array Value} (hw : ∀ d ∈ tables_1, d.before a0 Z = true) : Jvm.RoadKit.slotOf Z "com/example/saturation/saturation/OpenNode" "keys" "[I" ≠ Jvm.RoadKit.slotOf Z "com/example/saturation/saturation/OpenNode" "blocks" "I" := Jvm.RoadKit.slot_ne (Or.inl (own_w hw 22 rfl)) (Or.inl (own_w hw 46 rfl)) (by decide) (t := (.array .int)) (t' := .int) (by decide) (by decide)
theorem own_s24_46 {Z : State} {a0 : Array Value} (hw : ∀ d ∈ tables_1, d.before a0 Z = true) : Jvm.RoadKit.slotOf Z "com/example/saturation/saturation/OpenNode" "slots" "[I" ≠ Jvm.RoadKit.slotOf Z "com/example/saturation/saturation/OpenNode" "blocks" "I" := Jvm.RoadKit.slot_ne (Or.inl (own_w hw 24 rfl)) (Or.inl (own_w hw 46 rfl)) (by decide) (t := (.array .int)) (t' := .int) (by decide) (by decide)
theorem own_s26_46 {Z : State} {a0 : Array Value} (hw : ∀ d ∈ tables_1, d.before a0 Z = true) : Jvm.RoadKit.slotOf Z "com/example/saturation/saturation/OpenNode" "children" "[I" ≠ Jvm.RoadKit.slotOf Z "com/example/saturation/saturation/OpenNode" "blocks" "I" := Jvm.RoadKit.slot_ne (Or.inl (own_w hw 26 rfl)) (Or.inl (own_w hw 46 rfl)) (by decide) (t := (.array .int)) (t' := .int) (by decide) (by decide)
theorem own_s33_46 {Z : State} {a0 : Array Value} (hw : ∀ d ∈ tables_1, d.before a0 Z = true) : Jvm.RoadKit.slotOf Z "com/example/saturation/saturation/OpenNode" "pending" "[[J" ≠ Jvm.RoadKit.slotOf Z "com/example/saturation/saturation/OpenNode" "blocks" "I" := Jvm.RoadKit.slot_ne (Or.inr (own_w hw 33 rfl)) (Or.inl (own_w hw 46 rfl)) (by decide) (t := (.array (.array .long))) (t' := .int) (by decide) (by decide)
theorem own_s35_46 {Z : State} {a0 : Array Value} (hw : ∀ d ∈ tables_1, d.before a0 Z = true) : Jvm.RoadKit.slotOf Z "com/example/saturation/saturation/OpenNode" "pendingCount" "[I" ≠ Jvm.RoadKit.slotOf Z "com/example/saturation/saturation/OpenNode" "blocks" "I" := Jvm.RoadKit.slot_ne (Or.inr (own_w hw 35 rfl)) (Or.inl (own_w hw 46 rfl)) (by decide) (t := (.array .int)) (t' := .int) (by decide) (by decide)
theorem own_s46_20 {Z : State} {a0 : Array Value} (hw : ∀ d ∈ tables_1, d.before a0 Z = true) : Jvm.RoadKit.slotOf Z "com/example/saturation/saturation/OpenNode" "blocks" "I" ≠ Jvm.RoadKit.slotOf Z "com/example/saturation/saturation/OpenNode" "lastKey" "I" := Jvm.RoadKit.slot_ne (Or.inl (own_w hw 46 rfl)) (Or.inl (own_w hw 20 rfl)) (by decide) (t := .int) (t' := .int) (by decide) (by decide)
theorem own_s29_20 {Z : State} {a0 : Array Value} (hw : ∀ d ∈ tables_1, d.before a0 Z = true) : Jvm.RoadKit.slotOf Z "com/example/saturation/saturation/OpenNode" "count" "I" ≠ Jvm.RoadKit.slotOf Z "com/example/saturation/saturation/OpenNode" "lastKey" "I" := Jvm.RoadKit.slot_ne (Or.inl (own_w hw 29 rfl)) (Or.inl (own_w hw 20 rfl)) (by decide) (t := .int) (t' := .int) (by decide) (by decide)
theorem own_s66_20 {Z : State} {a0 : Array Value} (hw : ∀ d ∈ tables_1, d.before a0 Z = true) : Jvm.RoadKit.slotOf Z "com/example/saturation/saturation/OpenNode" "lastPosition" "I" ≠ Jvm.RoadKit.slotOf Z "com/example/saturation/saturation/OpenNode" "lastKey" "I" := Jvm.RoadKit.slot_ne (Or.inl (own_w hw 66 rfl)) (Or.inl (own_w hw 20 rfl)) (by decide) (t := .int) (t' := .int) (by decide) (by decide)
theorem own_s22_20 {Z : State} {a0 : Array Value} (hw : ∀ d ∈ tables_1, d.before a0 Z = true) : Jvm.RoadKit.slotOf Z "com/example/saturation/saturation/OpenNode" "keys" "[I" ≠ Jvm.RoadKit.slotOf Z "com/example/saturation/saturation/OpenNode" "lastKey" "I" := Jvm.RoadKit.slot_ne (Or.inl (own_w hw 22 rfl)) (Or.inl (own_w hw 20 rfl)) (by decide) (t := (.array .int)) (t' := .int) (by decide) (by decide)
theorem own_s24_20 {Z : State} {a0 : Array Value} (hw : ∀ d ∈ tables_1, d.before a0 Z = true) : Jvm.RoadKit.slotOf Z "com/example/saturation/saturation/OpenNode" "slots" "[I" ≠ Jvm.RoadKit.slotOf Z "com/example/saturation/saturation/OpenNode" "lastKey" "I" := Jvm.RoadKit.slot_ne (Or.inl (own_w hw 24 rfl)) (Or.inl (own_w hw 20 rfl)) (by decide) (t := (.array .int)) (t' := .int) (by decide) (by decide)
theorem own_s26_20 {Z : State} {a0 : Array Value} (hw : ∀ d ∈ tables_1, d.before a0 Z = true) : Jvm.RoadKit.slotOf Z "com/example/saturation/saturation/OpenNode" "children" "[I" ≠ Jvm.RoadKit.slotOf Z "com/example/saturation/saturation/OpenNode" "lastKey" "I" := Jvm.RoadKit.slot_ne (Or.inl (own_w hw 26 rfl)) (Or.inl (own_w hw 20 rfl)) (by decide) (t := (.array .int)) (t' := .int) (by decide) (by decide)
theorem own_s33_20 {Z : State} {a0 : Array Value} (hw : ∀ d ∈ tables_1, d.before a0 Z = true) : Jvm.RoadKit.slotOf Z "com/example/saturation/saturation/OpenNode" "pending" "[[J" ≠ Jvm.RoadKit.slotOf Z "com/example/saturation/saturation/OpenNode" "lastKey" "I" := Jvm.RoadKit.slot_ne (Or.inr (own_w hw 33 rfl)) (Or.inl (own_w hw 20 rfl)) (by decide) (t := (.array (.array .long))) (t' := .int) (by decide) (by decide)
theorem own_s35_20 {Z : State} {a0 : Array Value} (hw : ∀ d ∈ tables_1, d.before a0 Z = true) : Jvm.RoadKit.slotOf Z "com/example/saturation/saturation/OpenNode" "pendingCount" "[I" ≠ Jvm.RoadKit.slotOf Z "com/example/saturation/saturation/OpenNode" "lastKey" "I" := Jvm.RoadKit.slot_ne (Or.inr (own_w hw 35 rfl)) (Or.inl (own_w hw 20 rfl)) (by decide) (t := (.array .int)) (t' := .int) (by decide) (by decide)
theorem own_s46_66 {Z : State} {a0 : Array Value} (hw : ∀ d ∈ tables_1, d.before a0 Z = true) : Jvm.RoadKit.slotOf Z "com/example/saturation/saturation/OpenNode" "blocks" "I" ≠ Jvm.RoadKit.slotOf Z "com/example/saturation/saturation/OpenNode" "lastPosition" "I" := Jvm.RoadKit.slot_ne (Or.inl (own_w hw 46 rfl)) (Or.inl (own_w hw 66 rfl)) (by decide) (t := .int) (t' := .int) (by decide) (by decide)
theorem own_s29_66 {Z : State} {a0 : Array Value} (hw : ∀ d ∈ tables_1, d.before a0 Z = true) : Jvm.RoadKit.slotOf Z "com/example/saturation/saturation/OpenNode" "count" "I" ≠ Jvm.RoadKit.slotOf Z "com/example/saturation/saturation/OpenNode" "lastPosition" "I" := Jvm.RoadKit.slot_ne (Or.inl (own_w hw 29 rfl)) (Or.inl (own_w hw 66 rfl)) (by decide) (t := .int) (t' := .int) (by decide) (by decide)
theorem own_s20_66 {Z : State} {a0 : Array Value} (hw : ∀ d ∈ tables_1, d.before a0 Z = true) : Jvm.RoadKit.slotOf Z "com/example/saturation/saturation/OpenNode" "lastKey" "I" ≠ Jvm.RoadKit.slotOf Z "com/example/saturation/saturation/OpenNode" "lastPosition" "I" := Jvm.RoadKit.slot_ne (Or.inl (own_w hw 20 rfl)) (Or.inl (own_w hw 66 rfl)) (by decide) (t := .int) (t' := .int) (by decide) (by decide)
theorem own_s22_66 {Z : State} {a0 : Array Value} (hw : ∀ d ∈ tables_1, d.before a0 Z = true) : Jvm.RoadKit.slotOf Z "com/example/saturation/saturation/OpenNode" "keys" "[I" ≠ Jvm.RoadKit.slotOf Z "com/example/saturation/saturation/OpenNode" "lastPosition" "I" := Jvm.RoadKit.slot_ne (Or.inl (own_w hw 22 rfl)) (Or.inl (own_w hw 66 rfl)) (by decide) (t := (.array .int)) (t' := .int) (by decide) (by decide)
theorem own_s24_66 {Z : State} {a0 : Array Value} (hw : ∀ d ∈ tables_1, d.before a0 Z = true) : Jvm.RoadKit.slotOf Z "com/example/saturation/saturation/OpenNode" "slots" "[I" ≠ Jvm.RoadKit.slotOf Z "com/example/saturation/saturation/OpenNode" "lastPosition" "I" := Jvm.RoadKit.slot_ne (Or.inl (own_w hw 24 rfl)) (Or.inl (own_w hw 66 rfl)) (by decide) (t := (.array .int)) (t' := .int) (by decide) (by decide)
theorem own_s26_66 {Z : State} {a0 : Array Value} (hw : ∀ d ∈ tables_1, d.before a0 Z = true) : Jvm.RoadKit.slotOf Z "com/example/saturation/saturation/OpenNode" "children" "[I" ≠ Jvm.RoadKit.slotOf Z "com/example/saturation/saturation/OpenNode" "lastPosition" "I" := Jvm.RoadKit.slot_ne (Or.inl (own_w hw 26 rfl)) (Or.inl (own_w hw 66 rfl)) (by decide) (t := (.array .int)) (t' := .int) (by decide) (by decide)
theorem own_s33_66 {Z : State} {a0 : Array Value} (hw : ∀ d ∈ tables_1, d.before a0 Z = true) : Jvm.RoadKit.slotOf Z "com/example/saturation/saturation/OpenNode" "pending" "[[J" ≠ Jvm.RoadKit.slotOf Z "com/example/saturation/saturation/OpenNode" "lastPosition" "I" := Jvm.RoadKit.slot_ne (Or.inr (own_w hw 33 rfl)) (Or.inl (own_w hw 66 rfl)) (by decide) (t := (.array (.array .long))) (t' := .int) (by decide) (by decide)
theorem own_s35_66 {Z : State} {a0 : Array Value} (hw : ∀ d ∈ tables_1, d.before a0 Z = true) : Jvm.RoadKit.slotOf Z "com/example/saturation/saturation/OpenNode" "pendingCount" "[I" ≠ Jvm.RoadKit.slotOf Z "com/example/saturation/saturation/OpenNode" "lastPosition" "I" := Jvm.RoadKit.slot_ne (Or.inr (own_w hw 35 rfl)) (Or.inl (own_w hw 66 rfl)) (by decide) (t := (.array .int)) (t' := .int) (by decide) (by decide)
theorem own_s46_29 {Z : State} {a0 : Array Value} (hw : ∀ d ∈ tables_1, d.before a0 Z = true) : Jvm.RoadKit.slotOf Z "com/example/saturation/saturation/OpenNode" "blocks" "I" ≠ Jvm.RoadKit.slotOf Z "com/example/saturation/saturation/OpenNode" "count" "I" := Jvm.RoadKit.slot_ne (Or.inl (own_w hw 46 rfl)) (Or.inl (own_w hw 29 rfl)) (by decide) (t := .int) (t' := .int) (by decide) (by decide)
theorem own_s20_29 {Z : State} {a0 : Array Value} (hw : ∀ d ∈ tables_1, d.before a0 Z = true) : Jvm.RoadKit.slotOf Z "com/example/saturation/saturation/OpenNode" "lastKey" "I" ≠ Jvm.RoadKit.slotOf Z "com/example/saturation/saturation/OpenNode" "count" "I" := Jvm.RoadKit.slot_ne (Or.inl (own_w hw 20 rfl)) (Or.inl (own_w hw 29 rfl)) (by decide) (t := .int) (t' := .int) (by decide) (by decide)
theorem own_s66_29 {Z : State} {a0 : Array Value} (hw : ∀ d ∈ tables_1, d.before a0 Z = true) : Jvm.RoadKit.slotOf Z "com/example/saturation/saturation/OpenNode" "lastPosition" "I" ≠ Jvm.RoadKit.slotOf Z "com/example/saturation/saturation/OpenNode" "count" "I" := Jvm.RoadKit.slot_ne (Or.inl (own_w hw 66 rfl)) (Or.inl (own_w hw 29 rfl)) (by decide) (t := .int) (t' := .int) (by decide) (by decide)
theorem own_s22_29 {Z : State} {a0 : Array Value} (hw : ∀ d ∈ tables_1, d.before a0 Z = true) : Jvm.RoadKit.slotOf Z "com/example/saturation/saturation/OpenNode" "keys" "[I" ≠ Jvm.RoadKit.slotOf Z "com/example/saturation/saturation/OpenNode" "count" "I" := Jvm.RoadKit.slot_ne (Or.inl (own_w hw 22 rfl)) (Or.inl (own_w hw 29 rfl)) (by decide) (t := (.array .int)) (t' := .int) (by decide) (by decide)
theorem own_s24_29 {Z : State} {a0 : Array Value} (hw : ∀ d ∈ tables_1, d.before a0 Z = true) : Jvm.RoadKit.slotOf Z "com/example/saturation/saturation/OpenNode" "slots" "[I" ≠ Jvm.RoadKit.slotOf Z "com/example/saturation/saturation/OpenNode" "count" "I" := Jvm.RoadKit.slot_ne (Or.inl (own_w hw 24 rfl)) (Or.inl (own_w hw 29 rfl)) (by decide) (t := (.array .int)) (t' := .int) (by decide) (by decide)
theorem own_s26_29 {Z : State} {a0 : Array Value} (hw : ∀ d ∈ tables_1, d.before a0 Z = true) : Jvm.RoadKit.slotOf Z "com/example/saturation/saturation/OpenNode" "children" "[I" ≠ Jvm.RoadKit.slotOf Z "com/example/saturation/saturation/OpenNode" "count" "I" := Jvm.RoadKit.slot_ne (Or.inl (own_w hw 26 rfl)) (Or.inl (own_w hw 29 rfl)) (by decide) (t := (.array .int)) (t' := .int) (by decide) (by decide)
theorem own_s33_29 {Z : State} {a0 : Array Value} (hw : ∀ d ∈ tables_1, d.before a0 Z = true) : Jvm.RoadKit.slotOf Z "com/example/saturation/saturation/OpenNode" "pending" "[[J" ≠ Jvm.RoadKit.slotOf Z "com/example/saturation/saturation/OpenNode" "count" "I" := Jvm.RoadKit.slot_ne (Or.inr (own_w hw 33 rfl)) (Or.inl (own_w hw 29 rfl)) (by decide) (t := (.array (.array .long))) (t' := .int) (by decide) (by decide)
theorem own_s35_29 {Z : State} {a0 : Array Value} (hw : ∀ d ∈ tables_1, d.before a0 Z = true) : Jvm.RoadKit.slotOf Z "com/example/saturation/saturation/OpenNode" "pendingCount" "[I" ≠ Jvm.RoadKit.slotOf Z "com/example/saturation/saturation/OpenNode" "count" "I" := Jvm.RoadKit.slot_ne (Or.inr (own_w hw 35 rfl)) (Or.inl (own_w hw 29 rfl)) (by decide) (t := (.array .int)) (t' := .int) (by decide) (by decide)
theorem own_s20_33 {Z : State} {a0 : Array Value} (hw : ∀ d ∈ tables_1, d.before a0 Z = true) : Jvm.RoadKit.slotOf Z "com/example/saturation/saturation/OpenNode" "lastKey" "I" ≠ Jvm.RoadKit.slotOf Z "com/example/saturation/saturation/OpenNode" "pending" "[[J" := Jvm.RoadKit.slot_ne (Or.inl (own_w hw 20 rfl)) (Or.inr (own_w hw 33 rfl)) (by decide) (t := .int) (t' := (.array (.array .long))) (by decide) (by decide)
theorem own_s22_33 {Z : State} {a0 : Array Value} (hw : ∀ d ∈ tables_1, d.before a0 Z = true) : Jvm.RoadKit.slotOf Z "com/example/saturation/saturation/OpenNode" "keys" "[I" ≠ Jvm.RoadKit.slotOf Z "com/example/saturation/saturation/OpenNode" "pending" "[[J" := Jvm.RoadKit.slot_ne (Or.inl (own_w hw 22 rfl)) (Or.inr (own_w hw 33 rfl)) (by decide) (t := (.array .int)) (t' := (.array (.array .long))) (by decide) (by decide)
theorem own_s24_33 {Z : State} {a0 : Array Value} (hw : ∀ d ∈ tables_1, d.before a0 Z = true) : Jvm.RoadKit.slotOf Z "com/example/saturation/saturation/OpenNode" "slots" "[I" ≠ Jvm.RoadKit.slotOf Z "com/example/saturation/saturation/OpenNode" "pending" "[[J" := Jvm.RoadKit.slot_ne (Or.inl (own_w hw 24 rfl)) (Or.inr (own_w hw 33 rfl)) (by decide) (t := (.array .int)) (t' := (.array (.array .long))) (by decide) (by decide)
theorem own_s26_33 {Z : State} {a0 : Array Value} (hw : ∀ d ∈ tables_1, d.before a0 Z = true) : Jvm.RoadKit.slotOf Z "com/example/saturation/saturation/OpenNode" "children" "[I" ≠ Jvm.RoadKit.slotOf Z "com/example/saturation/saturation/OpenNode" "pending" "[[J" := Jvm.RoadKit.slot_ne (Or.inl (own_w hw 26 rfl)) (Or.inr (own_w hw 33 rfl)) (by decide) (t := (.array .int)) (t' := (.array (.array .long))) (by decide) (by decide)
theorem own_s29_33 {Z : State} {a0 : Array Value} (hw : ∀ d ∈ tables_1, d.before a0 Z = true) : Jvm.RoadKit.slotOf Z "com/example/saturation/saturation/OpenNode" "count" "I" ≠ Jvm.RoadKit.slotOf Z "com/example/saturation/saturation/OpenNode" "pending" "[[J" := Jvm.RoadKit.slot_ne (Or.inl (own_w hw 29 rfl)) (Or.inr (own_w hw 33 rfl)) (by decide) (t := .int) (t' := (.array (.array .long))) (by decide) (by decide)
theorem own_s35_33 {Z : State} {a0 : Array Value} (hw : ∀ d ∈ tables_1, d.before a0 Z = true) : Jvm.RoadKit.slotOf Z "com/example/saturation/saturation/OpenNode" "pendingCount" "[I" ≠ Jvm.RoadKit.slotOf Z "com/example/saturation/saturation/OpenNode" "pending" "[[J" := Jvm.RoadKit.slot_ne (Or.inr (own_w hw 35 rfl)) (Or.inr (own_w hw 33 rfl)) (by decide) (t := (.array .int)) (t' := (.array (.array .long))) (by decide) (by decide)
theorem own_s46_33 {Z : State} {a0 : Array Value} (hw : ∀ d ∈ tables_1, d.before a0 Z = true) : Jvm.RoadKit.slotOf Z "com/example/saturation/saturation/OpenNode" "blocks" "I" ≠ Jvm.RoadKit.slotOf Z "com/example/saturation/saturation/OpenNode" "pending" "[[J" := Jvm.RoadKit.slot_ne (Or.inl (own_w hw 46 rfl)) (Or.inr (own_w hw 33 rfl)) (by decide) (t := .int) (t' := (.array (.array .long))) (by decide) (by decide)
theorem own_s66_33 {Z : State} {a0 : Array Value} (hw : ∀ d ∈ tables_1, d.before a0 Z = true) : Jvm.RoadKit.slotOf Z "com/example/saturation/saturation/OpenNode" "lastPosition" "I" ≠ Jvm.RoadKit.slotOf Z "com/example/saturation/saturation/OpenNode" "pending" "[[J" := Jvm.RoadKit.slot_ne (Or.inl (own_w hw 66 rfl)) (Or.inr (own_w hw 33 rfl)) (by decide) (t := .int) (t' := (.array (.array .long))) (by decide) (by decide)
theorem own_s20_35 {Z : State} {a0 : Array Value} (hw : ∀ d ∈ tables_1, d.before a0 Z = true) : Jvm.RoadKit.slotOf Z "com/example/saturation/saturation/OpenNode" "lastKey" "I" ≠ Jvm.RoadKit.slotOf Z "com/example/saturation/saturation/OpenNode" "pendingCount" "[I" := Jvm.RoadKit.slot_ne (Or.inl (own_w hw 20 rfl)) (Or.inr (own_w hw 35 rfl)) (by decide) (t := .int) (t' := (.array .int)) (by decide) (by decide)
theorem own_s22_35 {Z : State} {a0 : Array Value} (hw : ∀ d ∈ tables_1, d.before a0 Z = true) : Jvm.RoadKit.slotOf Z "com/example/saturation/saturation/OpenNode" "keys" "[I" ≠ Jvm.RoadKit.slotOf Z "com/example/saturation/saturation/OpenNode" "pendingCount" "[I" := Jvm.RoadKit.slot_ne (Or.inl (own_w hw 22 rfl)) (Or.inr (own_w hw 35 rfl)) (by decide) (t := (.array .int)) (t' := (.array .int)) (by decide) (by decide)
theorem own_s24_35 {Z : State} {a0 : Array Value} (hw : ∀ d ∈ tables_1, d.before a0 Z = true) : Jvm.RoadKit.slotOf Z "com/example/saturation/saturation/OpenNode" "slots" "[I" ≠ Jvm.RoadKit.slotOf Z "com/example/saturation/saturation/OpenNode" "pendingCount" "[I" := Jvm.RoadKit.slot_ne (Or.inl (own_w hw 24 rfl)) (Or.inr (own_w hw 35 rfl)) (by decide) (t := (.array .int)) (t' := (.array .int)) (by decide) (by decide)
theorem own_s26_35 {Z : State} {a0 : Array Value} (hw : ∀ d ∈ tables_1, d.before a0 Z = true) : Jvm.RoadKit.slotOf Z "com/example/saturation/saturation/OpenNode" "children" "[I" ≠ Jvm.RoadKit.slotOf Z "com/example/saturation/saturation/OpenNode" "pendingCount" "[I" := Jvm.RoadKit.slot_ne (Or.inl (own_w hw 26 rfl)) (Or.inr (own_w hw 35 rfl)) (by decide) (t := (.array .int)) (t' := (.array .int)) (by decide) (by decide)
theorem own_s29_35 {Z : State} {a0 : Array Value} (hw : ∀ d ∈ tables_1, d.before a0 Z = true) : Jvm.RoadKit.slotOf Z "com/example/saturation/saturation/OpenNode" "count" "I" ≠ Jvm.RoadKit.slotOf Z "com/example/saturation/saturation/OpenNode" "pendingCount" "[I" := Jvm.RoadKit.slot_ne (Or.inl (own_w hw 29 rfl)) (Or.inr (own_w hw 35 rfl)) (by decide) (t := .int) (t' := (.array .int)) (by decide) (by decide)
theorem own_s33_35 {Z : State} {a0 : Array Value} (hw : ∀ d ∈ tables_1, d.before a0 Z = true) : Jvm.RoadKit.slotOf Z "com/example/saturation/saturation/OpenNode" "pending" "[[J" ≠ Jvm.RoadKit.slotOf Z "com/example/saturation/saturation/OpenNode" "pendingCount" "[I" := Jvm.RoadKit.slot_ne (Or.inr (own_w hw 33 rfl)) (Or.inr (own_w hw 35 rfl)) (by decide) (t := (.array (.array .long))) (t' := (.array .int)) (by decide) (by decide)
theorem own_s46_35 {Z : State} {a0 : Array Value} (hw : ∀ d ∈ tables_1, d.before a0 Z = true) : Jvm.RoadKit.slotOf Z "com/example/saturation/saturation/OpenNode" "blocks" "I" ≠ Jvm.RoadKit.slotOf Z "com/example/saturation/saturation/OpenNode" "pendingCount" "[I" := Jvm.RoadKit.slot_ne (Or.inl (own_w hw 46 rfl)) (Or.inr (own_w hw 35 rfl)) (by decide) (t := .int) (t' := (.array .int)) (by decide) (by decide)
theorem own_s66_35 {Z : State} {a0 : Array Value} (hw : ∀ d ∈ tables_1, d.before a0 Z = true) : Jvm.RoadKit.slotOf Z "com/example/saturation/saturation/OpenNode" "lastPosition" "I" ≠ Jvm.RoadKit.slotOf Z "com/example/saturation/saturation/OpenNode" "pendingCount" "[I" := Jvm.RoadKit.slot_ne (Or.inl (own_w hw 66 rfl)) (Or.inr (own_w hw 35 rfl)) (by decide) (t := .int) (t' := (.array .int)) (by decide) (by decide)
abbrev own_Go (p : Program) (e : Env) (below : List Frame) (A B : State) : Prop := ∀ t, Steps p.tables e below A t → Steps p.tables e below B t
abbrev own_K (p : Program) (e : Env) (below : List Frame) (T : State) (m : MethodId) (pc : Nat) (L : Array Slot) (S : List Value) (B : State) : Prop := own_Go p e below (T.setTop (mkF m pc L S)) B
abbrev own_At (p : Program) (e : Env) (below : List Frame) (T : State) (m : MethodId) (pc : Nat) (L : Array Slot) (S : List Value) (t : State) : Prop := Steps p.tables e below (T.setTop (mkF m pc L S)) t
section OwnArr
variable {Z : State} {h h' : Heap} {a b : Addr} {ty : FieldType} {n i : Nat} {f : Nat → Value} {v : Value}
def own_Av (Z : State) (h : Heap) (a : Addr) (ty : FieldType) (n : Nat) (f : Nat → Value) : Prop := ∃ c : Cell, Arr Z h a c ty ∧ c.slots.size = n ∧ n < 2 ^ 31 ∧ ∀ j, j < n → c.slots[j]? = some (f j)
theorem own_Av.lt (F : own_Av Z h a ty n f) : a < h.size := by obtain ⟨c, A, -⟩ := F; exact A.lt
theorem own_Av.ext (F : own_Av Z h a ty n f) (E : Ext h h') : own_Av Z h' a ty n f := by obtain ⟨c, A, r⟩ := F; exact ⟨c, A.ext E, r⟩
theorem own_Av.other {sl : Nat} (F : own_Av Z h a ty n f) (W : Wr h h' b sl v) (q : a ≠ b) : own_Av Z h' a ty n f := by obtain ⟨c, A, r⟩ := F; exact ⟨c, A.other W q, r⟩
theorem own_Av.keep {ws : List Addr} (F : own_Av Z h a ty n f) (K : Keep h h' ws) (q : a ∉ ws) : own_Av Z h' a ty n f := by obtain ⟨c, A, r⟩ := F; exact ⟨c, ⟨K.2.1 a c A.1 q, A.2⟩, r⟩
theorem own_Av.congr {g : Nat → Value} (F : own_Av Z h a ty n f) (q : ∀ j, j < n → f j = g j) : own_Av Z h a ty n g := by obtain ⟨c, A, r1, r2, r3⟩ := F; exact ⟨c, A, r1, r2, fun j hj => by rw [r3 j hj, q j hj]⟩
theorem own_Av.new {k : ClassId} {z : Int32} (A : Arr Z h a (newA k ty z) ty) (hz : ¬ z < 0) (hn : z.toNatClampNeg = n) : own_Av Z h a ty n (fun _ => defaultValue ty) := by
  refine ⟨_, A, (sz_new _ _ _).trans hn, hn ▸ (back32 hz).2, fun j hj => ?_⟩
  simp [newA, hn, hj]
theorem own_Av.set (F : own_Av Z h a ty n f) (W : Wr h h' a i v) : own_Av Z h' a ty n (fun q => if q = i then v else f q) := by
  obtain ⟨c, A, r1, r2, r3⟩ := F
  refine ⟨_, A.same W, (sz_set _ _ _).trans r1, r2, fun j hj => ?_⟩
  have e : (c.setSlot i v).slots = c.slots.setIfInBounds i v := rfl
  rw [e, Array.getElem?_setIfInBounds]
  by_cases q : i = j
  · subst q
    simp [r1, hj]
  · have q' : ¬ j = i := fun z => q z.symm
    simp [q, q', r3 j hj]
end OwnArr
section OwnArrSteps
variable {p : Program} {l : Launch} {e : Env} {R : Room} {s : State} {m : MethodId} {args : Array Value} {below : List Frame} {meth : Method} {c : Code} {T : State} {locs : List Loc} {cells slots : Nat} {Z : State} {h : Heap} {a : Addr} {n i : Nat} {f : Nat → Value} {v : Value}
theorem own_in {c : Cell} {j : Int32} (r1 : c.slots.size = n) (h1 : ¬ j < 0) (h2 : j.toNatClampNeg = i) (h3 : i < n) : ¬ (j < 0 ∨ c.slots.size ≤ j.toNatClampNeg) := fun q => q.elim h1 fun z => by rw [r1, h2] at z; exact absurd h3 (Nat.not_lt.mpr z)
theorem own_iaload (X : Stand p l e R s m args below meth c T locs cells slots) (hx : p.tables.exec = Jvm.exec) (hZ : Z.Warmed39 s.vm) (eT : T.heap = h) (F : own_Av Z h a .int n f) {j : Int32} (h1 : ¬ j < 0) (h2 : j.toNatClampNeg = i) (h3 : i < n) (h4 : f i = v)
    {g : JFrame} (hg : g.method = m) {rest : List Value} (hs : g.stack = .int j :: .ref a :: rest) (hd : decode c.code g.pc = .ok (.iaload, 1)) : ∀ target, Steps p.tables e below (T.setTop { g with pc := g.pc + 1, stack := v :: rest }) target → Steps p.tables e below (T.setTop g) target := by
  obtain ⟨cl, A, r1, r2, r3⟩ := F
  intro t k
  exact X.iaload hx (by rw [eT]; exact A.1) (State.isArrayOf_alike hZ.alike A.2.1) A.2.2 (own_in r1 h1 h2 h3) (by rw [h2, r3 i h3, h4]) hg hs hd t k
theorem own_laload (X : Stand p l e R s m args below meth c T locs cells slots) (hx : p.tables.exec = Jvm.exec) (hZ : Z.Warmed39 s.vm) (eT : T.heap = h) (F : own_Av Z h a .long n f) {j : Int32} (h1 : ¬ j < 0) (h2 : j.toNatClampNeg = i) (h3 : i < n) (h4 : f i = v)
    {g : JFrame} (hg : g.method = m) {rest : List Value} (hs : g.stack = .int j :: .ref a :: rest) (hd : decode c.code g.pc = .ok (.laload, 1)) : ∀ target, Steps p.tables e below (T.setTop { g with pc := g.pc + 1, stack := v :: rest }) target → Steps p.tables e below (T.setTop g) target := by
  obtain ⟨cl, A, r1, r2, r3⟩ := F
  intro t k
  exact X.laload hx (by rw [eT]; exact A.1) (State.isArrayOf_alike hZ.alike A.2.1) A.2.2 (own_in r1 h1 h2 h3) (by rw [h2, r3 i h3, h4]) hg hs hd t k
theorem own_aaload {ty : FieldType} (hty : ty.isReference = true) (X : Stand p l e R s m args below meth c T locs cells slots) (hx : p.tables.exec = Jvm.exec) (hZ : Z.Warmed39 s.vm) (eT : T.heap = h) (F : own_Av Z h a ty n f) {j : Int32} (h1 : ¬ j < 0) (h2 : j.toNatClampNeg = i) (h3 : i < n) (h4 : f i = v)
    {g : JFrame} (hg : g.method = m) {rest : List Value} (hs : g.stack = .int j :: .ref a :: rest) (hd : decode c.code g.pc = .ok (.aaload, 1)) : ∀ target, Steps p.tables e below (T.setTop { g with pc := g.pc + 1, stack := v :: rest }) target → Steps p.tables e below (T.setTop g) target := by
  obtain ⟨cl, A, r1, r2, r3⟩ := F
  intro t k
  exact X.aaload hx (by rw [eT]; exact A.1) (State.isArrayOf_alike hZ.alike A.2.1) hty A.2.2 (own_in r1 h1 h2 h3) (by rw [h2, r3 i h3, h4]) hg hs hd t k
theorem own_caload (X : Stand p l e R s m args below meth c T locs cells slots) (hx : p.tables.exec = Jvm.exec) (hZ : Z.Warmed39 s.vm) (eT : T.heap = h) (F : own_Av Z h a .char n f) {j : Int32} (h1 : ¬ j < 0) (h2 : j.toNatClampNeg = i) (h3 : i < n) (h4 : f i = v)
    {g : JFrame} (hg : g.method = m) {rest : List Value} (hs : g.stack = .int j :: .ref a :: rest) (hd : decode c.code g.pc = .ok (.caload, 1)) : ∀ target, Steps p.tables e below (T.setTop { g with pc := g.pc + 1, stack := v :: rest }) target → Steps p.tables e below (T.setTop g) target := by
  obtain ⟨cl, A, r1, r2, r3⟩ := F
  intro t k
  exact X.caload hx (by rw [eT]; exact A.1) (State.isArrayOf_alike hZ.alike A.2.1) A.2.2 (own_in r1 h1 h2 h3) (by rw [h2, r3 i h3, h4]) hg hs hd t k
theorem own_alen {ty : FieldType} (X : Stand p l e R s m args below meth c T locs cells slots) (hx : p.tables.exec = Jvm.exec) (hZ : Z.Warmed39 s.vm) (eT : T.heap = h) (F : own_Av Z h a ty n f)
    {g : JFrame} (hg : g.method = m) {rest : List Value} (hs : g.stack = .ref a :: rest) (hd : decode c.code g.pc = .ok (.arraylength, 1)) : ∀ target, Steps p.tables e below (T.setTop { g with pc := g.pc + 1, stack := .int (Int32.ofNat n) :: rest }) target → Steps p.tables e below (T.setTop g) target := by
  obtain ⟨cl, A, r1, r2, r3⟩ := F
  intro t k
  refine X.arraylength hx (by rw [eT]; exact A.1) (State.isArrayOf_alike hZ.alike A.2.1) hg hs hd t ?_
  rw [r1]
  exact k
theorem own_iastore (X : Stand p l e R s m args below meth c T locs cells slots) (hx : p.tables.exec = Jvm.exec) (hZ : Z.Warmed39 s.vm) (eT : T.heap = h) (F : own_Av Z h a .int n f) {j x : Int32} (h1 : ¬ j < 0) (h2 : j.toNatClampNeg = i) (h3 : i < n)
    {g : JFrame} (hg : g.method = m) {rest : List Value} (hs : g.stack = .int x :: .int j :: .ref a :: rest) (hd : decode c.code g.pc = .ok (.iastore, 1)) :
    ∃ T' h', Stand p l e R s m args below meth c T' (locs ++ [⟨a, i⟩]) cells slots ∧ T'.heap = h' ∧ Wr h h' a i (.int x) ∧ own_Av Z h' a .int n (fun q => if q = i then .int x else f q) ∧ ∀ target, Steps p.tables e below (T'.setTop { g with pc := g.pc + 1, stack := rest }) target → Steps p.tables e below (T.setTop g) target := by
  have F0 := F
  obtain ⟨cl, A, r1, r2, r3⟩ := F
  obtain ⟨T', h', X', e', W', st'⟩ := stI X hx hZ eT A (own_in r1 h1 h2 h3) hg hs hd
  rw [h2] at X' W'
  exact ⟨T', h', X', e', W', F0.set W', st'⟩
theorem own_lastore (X : Stand p l e R s m args below meth c T locs cells slots) (hx : p.tables.exec = Jvm.exec) (hZ : Z.Warmed39 s.vm) (eT : T.heap = h) (F : own_Av Z h a .long n f) {j : Int32} {x : Int64} (h1 : ¬ j < 0) (h2 : j.toNatClampNeg = i) (h3 : i < n)
    {g : JFrame} (hg : g.method = m) {rest : List Value} (hs : g.stack = .long x :: .int j :: .ref a :: rest) (hd : decode c.code g.pc = .ok (.lastore, 1)) :
    ∃ T' h', Stand p l e R s m args below meth c T' (locs ++ [⟨a, i⟩]) cells slots ∧ T'.heap = h' ∧ Wr h h' a i (.long x) ∧ own_Av Z h' a .long n (fun q => if q = i then .long x else f q) ∧ ∀ target, Steps p.tables e below (T'.setTop { g with pc := g.pc + 1, stack := rest }) target → Steps p.tables e below (T.setTop g) target := by
  have F0 := F
  obtain ⟨cl, A, r1, r2, r3⟩ := F
  obtain ⟨T', h', X', e', W', st'⟩ := stJ X hx hZ eT A (own_in r1 h1 h2 h3) hg hs hd
  rw [h2] at X' W'
  exact ⟨T', h', X', e', W', F0.set W', st'⟩
end OwnArrSteps
section OwnCp
variable {p : Program} {l : Launch} {e : Env} {R : Room} {s : State} {m : MethodId} {args : Array Value} {below : List Frame} {meth : Method} {c : Code} {T : State} {locs : List Loc} {cells slots : Nat} {Z : State} {h : Heap} {a b : Addr} {n n' i j k : Nat} {f f' : Nat → Value} {v : Value}
theorem own_nat32 {n : Nat} (h : n < 2 ^ 31) : (Int32.ofNat n).toNatClampNeg = n ∧ ¬ Int32.ofNat n < 0 := by
  have e : (Int32.ofNat n).toInt = n := Int32.toInt_ofNat_small h
  have e0 : (0 : Int32).toInt = 0 := rfl
  refine ⟨?_, ?_⟩
  · show (Int32.ofNat n).toInt.toNat = n
    rw [e]; rfl
  · rw [Int32.lt_iff_toInt_lt, e, e0]
    omega
theorem own_Av.arv {ty : FieldType} (F : own_Av Z h a ty n f) (d : Value) (hf : ∀ q, q < n → fits ty (f q) = true) : ∃ k, Arv Z h a k ty (Int32.ofNat n) ((List.range n).map f) d := by
  obtain ⟨cl, A, r1, r2, r3⟩ := F
  have hg : ∀ q, q < n → ((List.range n).map f).getD q d = f q := fun q hq => by simp [List.getD, hq]
  refine ⟨cl.cls, cl, A, rfl, ?_, (own_nat32 r2).2, fun q hq => ?_, fun q hq => ?_⟩
  · rw [r1, (own_nat32 r2).1]
  · rw [r1] at hq
    rw [r3 q hq, hg q hq]
  · rw [r1] at hq
    rw [hg q hq]; exact hf q hq
theorem own_Av.ofArv {ty : FieldType} {kc : ClassId} {vs : List Value} {d : Value} {g : Nat → Value} (hn : n < 2 ^ 31) (F : Arv Z h a kc ty (Int32.ofNat n) vs d) (hg : ∀ q, q < n → vs.getD q d = g q) : own_Av Z h a ty n g := by
  obtain ⟨cl, A, r0, r1, r2, H, G⟩ := F
  rw [(own_nat32 hn).1] at r1
  exact ⟨cl, A, r1, hn, fun q hq => by rw [H q (by rw [r1]; exact hq), hg q hq]⟩
theorem own_Av.small {ty : FieldType} (F : own_Av Z h a ty n f) : n < 2 ^ 31 := by obtain ⟨cl, A, r1, r2, r3⟩ := F; exact r2
theorem own_splice {f g : Nat → Value} {d : Value} {i j k n n' : Nat} (h4 : i + k ≤ n) (h5 : j + k ≤ n') (q : Nat) (hq : q < n') :
    (((List.range n').map g).take j ++ ((List.range k).map fun z => ((List.range n).map f).getD (i + z) d) ++ ((List.range n').map g).drop (j + k)).getD q d = if j ≤ q ∧ q < j + k then f (i + (q - j)) else g q := by
  have e1 : (((List.range n').map g).take j).length = j := by simp; omega
  have e2 : ((List.range k).map fun z => ((List.range n).map f).getD (i + z) d).length = k := by simp
  have e3 : (((List.range n').map g).take j ++ ((List.range k).map fun z => ((List.range n).map f).getD (i + z) d)).length = j + k := by rw [List.length_append, e1, e2]
  simp only [List.getD_eq_getElem?_getD] at e2 e3 ⊢
  by_cases q1 : q < j
  · rw [if_neg (by omega), List.getElem?_append_left (by rw [e3]; omega), List.getElem?_append_left (by rw [e1]; exact q1), List.getElem?_take_of_lt q1]
    simp [hq]
  · by_cases q2 : q < j + k
    · rw [if_pos ⟨by omega, q2⟩, List.getElem?_append_left (by rw [e3]; exact q2), List.getElem?_append_right (by rw [e1]; omega), e1]
      have z1 : q - j < k := by omega
      have z2 : i + (q - j) < n := by omega
      simp [z1, z2]
    · rw [if_neg (by omega), List.getElem?_append_right (by rw [e3]; omega), e3, List.getElem?_drop]
      have z1 : j + k + (q - (j + k)) = q := by omega
      rw [z1]
      simp [hq]
theorem own_cp {ty : FieldType} {a0 : Array Value} {own : String} {index : Nat} {n0 : Nat} (X : Stand p l e R s m args below meth c T locs cells slots) (hx : p.tables.exec = Jvm.exec) (hZ : Z.Warmed39 s.vm) (hown : s.vm.findClass own = some m.cls)
    (w1 : (Cond.methodLink own index Jvm.Stand.acN).before a0 Z = true) (w2 : (Cond.native Jvm.Stand.acN).before a0 Z = true) (w3 : (Cond.static Jvm.Stand.acN).before a0 Z = true) (w4 : (Cond.initialized "java/lang/System").before a0 Z = true) (eT : T.heap = h)
    (hty : refKind ty = false) (A : own_Av Z h a ty n f) (B : own_Av Z h b ty n' f') (fa : ∀ q, q < n → fits ty (f q) = true) (fb : ∀ q, q < n' → fits ty (f' q) = true)
    {sp dp nn : Int32} (h1 : ¬ sp < 0) (h1' : sp.toNatClampNeg = i) (h2 : ¬ dp < 0) (h2' : dp.toNatClampNeg = j) (h3 : ¬ nn < 0) (h3' : nn.toNatClampNeg = k) (h4 : i + k ≤ n) (h5 : j + k ≤ n') (N : Fr n0 locs) (ge : n0 ≤ b)
    {g : JFrame} (hg : g.method = m) (hsize : g.locals.size = c.maxLocals) {rest : List Value} (hs : g.stack = .int nn :: .int dp :: .ref b :: .int sp :: .ref a :: rest) (hd : decode c.code g.pc = .ok (.invokestatic index, 3))
    (hf : 1 ≤ R.frames) {W : Nat} (hW : 2 * g.monitorRoom + (rest.map fun v => v.category).sum ≤ W) (hlo : W + 18 ≤ R.locals) :
    ∃ T' h' L, Stand p l e R s m args below meth c T' L cells slots ∧ T'.heap = h' ∧ Fr n0 L ∧ Keep h h' [b] ∧ own_Av Z h' b ty n' (fun q => if j ≤ q ∧ q < j + k then f (i + (q - j)) else f' q) ∧
      ∀ target, Steps p.tables e below (T'.setTop { g with pc := g.pc + 3, stack := rest }) target → Steps p.tables e below (T.setTop g) target := by
  have sa := A.small
  have sb := B.small
  obtain ⟨ka, A'⟩ := A.arv (.int 0) fa
  obtain ⟨kb, B'⟩ := B.arv (.int 0) fb
  obtain ⟨T', h', L, X', e', N', K', V', st'⟩ := cpA X hx hZ hown w1 w2 w3 w4 eT A' B' (Or.inl ⟨rfl, hty⟩) h1 h2 h3 (by rw [h1', h3', (own_nat32 sa).1]; exact h4) (by rw [h2', h3', (own_nat32 sb).1]; exact h5) rfl (by rw [h2', h3']; simpa using h5) N ge hg hsize hs hd hf hW (by
    have q : nativeFrameWords "java/lang/System" "arraycopy" 5 = 7 := by decide
    rw [q]; exact hlo)
  rw [h1', h2', h3'] at V'
  exact ⟨T', h', L, X', e', N', K', own_Av.ofArv sb V' (fun q hq => own_splice h4 h5 q hq), st'⟩
end OwnCp
section OwnRef
variable {Z : State} {h h' : Heap} {a b y : Addr} {ty : FieldType} {C : String} {n i : Nat} {f : Nat → Value} {v : Value}
def own_Ra (Z : State) (h : Heap) (a : Addr) (ty : FieldType) (C : String) (n : Nat) (f : Nat → Value) : Prop := ∃ c : Cell, Arr Z h a c (.array ty) ∧ OvrA Z c.cls ty C ∧ c.slots.size = n ∧ n < 2 ^ 31 ∧ ∀ j, j < n → c.slots[j]? = some (f j)
theorem own_Ra.lt (F : own_Ra Z h a ty C n f) : a < h.size := by obtain ⟨c, A, -⟩ := F; exact A.lt
theorem own_Ra.ext (F : own_Ra Z h a ty C n f) (E : Ext h h') : own_Ra Z h' a ty C n f := by obtain ⟨c, A, r⟩ := F; exact ⟨c, A.ext E, r⟩
theorem own_Ra.other {sl : Nat} (F : own_Ra Z h a ty C n f) (W : Wr h h' b sl v) (q : a ≠ b) : own_Ra Z h' a ty C n f := by obtain ⟨c, A, r⟩ := F; exact ⟨c, A.other W q, r⟩
theorem own_Ra.keep {ws : List Addr} (F : own_Ra Z h a ty C n f) (K : Keep h h' ws) (q : a ∉ ws) : own_Ra Z h' a ty C n f := by obtain ⟨c, A, r⟩ := F; exact ⟨c, ⟨K.2.1 a c A.1 q, A.2⟩, r⟩
theorem own_Ra.av (F : own_Ra Z h a ty C n f) : own_Av Z h a (.array ty) n f := by obtain ⟨c, A, -, r⟩ := F; exact ⟨c, A, r⟩
theorem own_Ra.congr {g : Nat → Value} (F : own_Ra Z h a ty C n f) (q : ∀ j, j < n → f j = g j) : own_Ra Z h a ty C n g := by obtain ⟨c, A, r0, r1, r2, r3⟩ := F; exact ⟨c, A, r0, r1, r2, fun j hj => by rw [r3 j hj, q j hj]⟩
theorem own_Ra.new {k : ClassId} {z : Int32} (A : Arr Z h a (newA k (.array ty) z) (.array ty)) (O : OvrA Z k ty C) (hz : ¬ z < 0) (hn : z.toNatClampNeg = n) : own_Ra Z h a ty C n (fun _ => .null) := by
  refine ⟨_, A, O, (sz_new _ _ _).trans hn, hn ▸ (back32 hz).2, fun j hj => ?_⟩
  simp [newA, hn, hj, defaultValue]
theorem own_Ra.set (F : own_Ra Z h a ty C n f) (W : Wr h h' a i v) : own_Ra Z h' a ty C n (fun q => if q = i then v else f q) := by
  obtain ⟨c, A, r0, r1, r2, r3⟩ := F
  refine ⟨_, A.same W, r0, (sz_set _ _ _).trans r1, r2, fun j hj => ?_⟩
  have e : (c.setSlot i v).slots = c.slots.setIfInBounds i v := rfl
  rw [e, Array.getElem?_setIfInBounds]
  by_cases q : i = j
  · subst q
    simp [r1, hj]
  · have q' : ¬ j = i := fun z => q z.symm
    simp [q, q', r3 j hj]
end OwnRef
section OwnRefSteps
variable {p : Program} {l : Launch} {e : Env} {R : Room} {s : State} {m : MethodId} {args : Array Value} {below : List Frame} {meth : Method} {c : Code} {T : State} {locs : List Loc} {cells slots : Nat} {Z : State} {h : Heap} {a y : Addr} {ty : FieldType} {C : String} {n i : Nat} {f : Nat → Value} {v : Value}
theorem own_aastore (X : Stand p l e R s m args below meth c T locs cells slots) (hx : p.tables.exec = Jvm.exec) (hZ : Z.Warmed39 s.vm) (eT : T.heap = h) (F : own_Ra Z h a ty C n f) (E : Exa Z h y C) {j : Int32} (h1 : ¬ j < 0) (h2 : j.toNatClampNeg = i) (h3 : i < n)
    {g : JFrame} (hg : g.method = m) {rest : List Value} (hs : g.stack = .ref y :: .int j :: .ref a :: rest) (hd : decode c.code g.pc = .ok (.aastore, 1)) :
    ∃ T' h', Stand p l e R s m args below meth c T' (locs ++ [⟨a, i⟩]) cells slots ∧ T'.heap = h' ∧ Wr h h' a i (.ref y) ∧ own_Ra Z h' a ty C n (fun q => if q = i then .ref y else f q) ∧ ∀ target, Steps p.tables e below (T'.setTop { g with pc := g.pc + 1, stack := rest }) target → Steps p.tables e below (T.setTop g) target := by
  have F0 := F
  obtain ⟨cl, A, r0, r1, r2, r3⟩ := F
  obtain ⟨T', h', X', e', W', st'⟩ := stR X hx hZ eT A (own_in r1 h1 h2 h3) rfl (Sto.ofVA A rfl r0 (Ins.self E)) hg hs hd
  rw [h2] at X' W'
  exact ⟨T', h', X', e', W', F0.set W', st'⟩
end OwnRefSteps
section OwnNode
variable {Z : State} {h h' h2 : Heap} {a b x : Addr} {ty ty' : FieldType} {n n' i cap : Nat} {f g : Nat → Value} {v : Value} {P Q : Addr → Prop} {C nm d : String}
theorem own_ty (A : own_Av Z h a ty n f) (B : own_Av Z h b ty' n' g) (hne : ty ≠ ty') : a ≠ b := fun e => by
  subst e
  obtain ⟨c1, A1, -⟩ := A
  obtain ⟨c2, A2, -⟩ := B
  have hc : c1 = c2 := Option.some.inj (A1.1.symm.trans A2.1)
  subst hc
  obtain ⟨-, k1, q1, comp1, r1⟩ := A1.2.1
  obtain ⟨-, k2, q2, comp2, r2⟩ := A2.2.1
  have hk : k1 = k2 := Option.some.inj (q1.symm.trans q2)
  subst hk
  rw [r1] at r2
  injection r2 with _ e2
  exact hne e2
def own_La (Z : State) (h : Heap) (b : Addr) (cap : Nat) : Prop := ∃ f : Nat → Int64, own_Av Z h b .long cap (fun q => .long (f q))
theorem own_La.ext (F : own_La Z h b cap) (E : Ext h h') : own_La Z h' b cap := by obtain ⟨f, A⟩ := F; exact ⟨f, A.ext E⟩
theorem own_La.other {sl : Nat} (F : own_La Z h b cap) (W : Wr h h' a sl v) (q : b ≠ a) : own_La Z h' b cap := by obtain ⟨f, A⟩ := F; exact ⟨f, A.other W q⟩
theorem own_La.keep {ws : List Addr} (F : own_La Z h b cap) (K : Keep h h' ws) (q : b ∉ ws) : own_La Z h' b cap := by obtain ⟨f, A⟩ := F; exact ⟨f, A.keep K q⟩
theorem own_La.wrL {x : Int64} (F : own_La Z h b cap) (W : Wr h h' a i (.long x)) : own_La Z h' b cap := by
  obtain ⟨f, A⟩ := F
  by_cases q : b = a
  · subst q
    exact ⟨fun z => if z = i then x else f z, (A.set W).congr fun j _ => by by_cases z : j = i <;> simp [z]⟩
  · exact ⟨f, A.other W q⟩
def own_Sm (P : Addr → Prop) (h h' : Heap) : Prop := h.size ≤ h'.size ∧ ∀ (x : Addr) (c : Cell), h[x]? = some c → ¬ P x → h'[x]? = some c
theorem own_Sm.refl : own_Sm P h h := ⟨Nat.le_refl _, fun _ _ q _ => q⟩
theorem own_Sm.trans (A : own_Sm P h h') (B : own_Sm P h' h2) : own_Sm P h h2 := ⟨Nat.le_trans A.1 B.1, fun x c q r => B.2 x c (A.2 x c q r) r⟩
theorem own_Sm.mono (A : own_Sm P h h') (m : ∀ x, P x → Q x) : own_Sm Q h h' := ⟨A.1, fun x c q r => A.2 x c q fun z => r (m x z)⟩
theorem own_Sm.ext (A : own_Sm P h h') (E : Ext h' h2) : own_Sm P h h2 := ⟨Nat.le_trans A.1 E.1, fun x c q r => E.2 x c (A.2 x c q r)⟩
theorem own_Sm.keep {ws : List Addr} (A : own_Sm P h h') (K : Keep h' h2 ws) (q : ∀ x ∈ ws, P x) : own_Sm P h h2 := ⟨Nat.le_trans A.1 K.1, fun x c r s => K.2.1 x c (A.2 x c r s) fun z => s (q x z)⟩
theorem own_Sm.wr {sl : Nat} (A : own_Sm P h h') (W : Wr h' h2 a sl v) (q : P a) : own_Sm P h h2 := A.keep (Keep.of_wr W) (allS (P := P) q all0)
theorem own_Av.sm (F : own_Av Z h a ty n f) (S : own_Sm P h h') (q : ¬ P a) : own_Av Z h' a ty n f := by obtain ⟨c, A, r⟩ := F; exact ⟨c, ⟨S.2 a c A.1 q, A.2⟩, r⟩
theorem own_Ra.sm {t : FieldType} {K : String} (F : own_Ra Z h a t K n f) (S : own_Sm P h h') (q : ¬ P a) : own_Ra Z h' a t K n f := by obtain ⟨c, A, r⟩ := F; exact ⟨c, ⟨S.2 a c A.1 q, A.2⟩, r⟩
theorem own_FldSm (F : Fld Z h a C nm d v) (S : own_Sm P h h') (q : ¬ P a) : Fld Z h' a C nm d v := by obtain ⟨cell, cf, k, i, f, h1, r⟩ := F; exact ⟨cell, cf, k, i, f, S.2 a cell h1 q, r⟩
theorem own_ExaSm (F : Exa Z h a C) (S : own_Sm P h h') (q : ¬ P a) : Exa Z h' a C := by obtain ⟨cell, k, h1, r⟩ := F; exact ⟨cell, k, S.2 a cell h1 q, r⟩
theorem own_ofN {n : Nat} (h : n < 2 ^ 31) : (Int32.ofNat n).toInt = n := Int32.toInt_ofNat_small h
theorem own_ltN {a b : Nat} (ha : a < 2 ^ 31) (hb : b < 2 ^ 31) : Int32.ofNat a < Int32.ofNat b ↔ a < b := by
  rw [Int32.lt_iff_toInt_lt, own_ofN ha, own_ofN hb]; omega
theorem own_up1 (i : Nat) : Int32.ofNat i + 1 = Int32.ofNat (i + 1) := by rw [Int32.ofNat_add]; rfl
theorem own_Fr.nil' : Fr n [] := Fr.nil n
end OwnNode
section OwnClone
variable {p : Program} {l : Launch} {e : Env} {R : Room} {s : State} {m : MethodId} {args : Array Value} {below : List Frame} {meth : Method} {c : Code} {T : State} {locs : List Loc} {cells slots : Nat} {Z : State} {a0 : Array Value} {h : Heap} {a : Addr} {n : Nat} {f : Nat → Value} {own : String} {index : Nat}
theorem own_clone (X : Stand p l e R s m args below meth c T locs cells slots) (hx : p.tables.exec = Jvm.exec) (hZ : Z.Warmed39 s.vm) (hown : s.vm.findClass own = some m.cls)
    (w1 : (Cond.methodLink own index ⟨"[J", "clone", "()Ljava/lang/Object;"⟩).before a0 Z = true) (w2 : (Cond.sameMethod "[J" "java/lang/Object" "clone" "()Ljava/lang/Object;").before a0 Z = true) (w3 : (Cond.native ⟨"java/lang/Object", "clone", "()Ljava/lang/Object;"⟩).before a0 Z = true)
    (w4 : (Cond.instanceMethod ⟨"java/lang/Object", "clone", "()Ljava/lang/Object;"⟩).before a0 Z = true) (w5 : (Cond.selects "[J" ⟨"[J", "clone", "()Ljava/lang/Object;"⟩ ⟨"java/lang/Object", "clone", "()Ljava/lang/Object;"⟩).before a0 Z = true) (w6 : (Cond.castable "[J" "java/lang/Cloneable").before a0 Z = true)
    (eT : T.heap = h) (F : own_Av Z h a .long n f) (E : Exa Z h a "[J") (hf : ∀ q, q < n → fits .long (f q) = true) {g : JFrame} (hg : g.method = m) (hsize : g.locals.size = c.maxLocals) {rest : List Value} (hs : g.stack = .ref a :: rest) (hd : decode c.code g.pc = .ok (.invokevirtual index, 3))
    (hfr : 1 ≤ R.frames) {W cap : Nat} (hW : 2 * g.monitorRoom + (rest.map fun v => v.category).sum ≤ W) (hl : W + 14 ≤ R.locals) (hcap : n ≤ cap) (hc : cells + 1 ≤ R.cells) (hsl : slots + cap ≤ R.slots) :
    ∃ T' h', Stand p l e R s m args below meth c T' locs (cells + 1) (slots + cap) ∧ T'.heap = h' ∧ Ext h h' ∧ own_Av Z h' h.size .long n f ∧ Exa Z h' h.size "[J" ∧
      ∀ target, Steps p.tables e below (T'.setTop { g with pc := g.pc + 3, stack := .ref h.size :: rest }) target → Steps p.tables e below (T.setTop g) target := by
  obtain ⟨cl, A, r1, r2, r3⟩ := F
  obtain ⟨T', h', X', e', E', A', B', st'⟩ := cloneA X hx hZ hown w1 w2 w3 w4 w5 w6 eT A E (fitC_of A fun i hi v hv => by
    rw [r1] at hi
    rw [r3 i hi] at hv
    exact (Option.some.inj hv) ▸ hf i hi) hg hsize hs hd hfr hW hl (by rw [r1]; exact hcap) hc hsl
  exact ⟨T', h', X', e', E', ⟨_, A', r1, r2, r3⟩, B', st'⟩
end OwnClone

def own_Pf (Z : State) (h : Heap) (n0 ev : Nat) (cf : Nat → Nat) (pf : Nat → Addr) : Prop := ∀ q, q < ev → n0 ≤ pf q ∧ Exa Z h (pf q) "[J" ∧ own_La Z h (pf q) (cf q)
theorem own_Pf.ext {Z : State} {h h' : Heap} {n0 ev : Nat} {cf : Nat → Nat} {pf : Nat → Addr} (F : own_Pf Z h n0 ev cf pf) (E : Ext h h') : own_Pf Z h' n0 ev cf pf := fun q hq => ⟨(F q hq).1, (F q hq).2.1.ext E, (F q hq).2.2.ext E⟩
theorem own_Pf.wrO {Z : State} {h h' : Heap} {n0 ev sl : Nat} {cf : Nat → Nat} {pf : Nat → Addr} {a : Addr} {v : Value} {C : String} (F : own_Pf Z h n0 ev cf pf) (W : Wr h h' a sl v) (E : Exa Z h a C) (hC : "[J" ≠ C) : own_Pf Z h' n0 ev cf pf := fun q hq => ⟨(F q hq).1, (F q hq).2.1.wr W, (F q hq).2.2.other W (ne_exa (F q hq).2.1 E hC)⟩
theorem own_Pf.wrA {Z : State} {h h' : Heap} {n0 ev sl n : Nat} {cf : Nat → Nat} {pf : Nat → Addr} {a : Addr} {v : Value} {ty : FieldType} {f : Nat → Value} (F : own_Pf Z h n0 ev cf pf) (W : Wr h h' a sl v) (A : own_Av Z h a ty n f) (ht : FieldType.long ≠ ty) : own_Pf Z h' n0 ev cf pf := fun q hq => ⟨(F q hq).1, (F q hq).2.1.wr W, by
  have F2 := (F q hq).2.2
  obtain ⟨f2, A2⟩ := F2
  exact ⟨f2, A2.other W (own_ty A2 A ht)⟩⟩
theorem own_Pf.keep0 {Z : State} {h h' : Heap} {n0 ev : Nat} {cf : Nat → Nat} {pf : Nat → Addr} (F : own_Pf Z h n0 ev cf pf) (K : Keep h h' []) : own_Pf Z h' n0 ev cf pf := fun q hq => ⟨(F q hq).1, (F q hq).2.1.keep K, (F q hq).2.2.keep K nin0⟩
theorem own_Pf.keepA {Z : State} {h h' : Heap} {n0 ev n : Nat} {cf : Nat → Nat} {pf : Nat → Addr} {a : Addr} {ty : FieldType} {f : Nat → Value} (F : own_Pf Z h n0 ev cf pf) (K : Keep h h' [a]) (A : own_Av Z h a ty n f) (ht : FieldType.long ≠ ty) : own_Pf Z h' n0 ev cf pf := fun q hq => ⟨(F q hq).1, (F q hq).2.1.keep K, by
  have F2 := (F q hq).2.2
  obtain ⟨f2, A2⟩ := F2
  exact ⟨f2, A2.keep K (ninS (own_ty A2 A ht) nin0)⟩⟩
theorem own_nd {L : List Addr} (h : L.Nodup) (i j : Nat) {x y : Addr} (hx : L[i]? = some x) (hy : L[j]? = some y) (hij : i < j) : x ≠ y := by
  obtain ⟨hi, rfl⟩ := List.getElem?_eq_some_iff.mp hx
  obtain ⟨hj, rfl⟩ := List.getElem?_eq_some_iff.mp hy
  exact (List.pairwise_iff_getElem.mp h) i j hi hj hij
def own_Pd (Z : State) (h : Heap) (n0 ev cap : Nat) (bp bq : Addr) : Prop := (∃ pf : Nat → Addr, own_Ra Z h bp .long "[J" ev (fun q => .ref (pf q)) ∧ own_Pf Z h n0 ev (fun _ => cap) pf) ∧ ∃ g : Nat → Int32, own_Av Z h bq .int ev (fun q => .int (g q))
def own_N (Z : State) (h : Heap) (n0 : Nat) (a : Addr) (nb cap : Nat) (K : Nat → Int32) (S : Nat → Nat) (Ch : Nat → Int32) (ct lk : Int32) (ev : Nat) : Prop := Exa Z h a "com/example/saturation/saturation/OpenNode" ∧ Fld Z h a "com/example/saturation/saturation/OpenNode" "blocks" "I" (.int (Int32.ofNat nb)) ∧ Fld Z h a "com/example/saturation/saturation/OpenNode" "count" "I" (.int ct) ∧ Fld Z h a "com/example/saturation/saturation/OpenNode" "lastKey" "I" (.int lk) ∧ (∃ lp : Int32, Fld Z h a "com/example/saturation/saturation/OpenNode" "lastPosition" "I" (.int lp)) ∧ ∃ bk bl bc bp bq : Addr, (∀ x ∈ [a, bk, bl, bc, bp, bq], n0 ≤ x) ∧ [a, bk, bl, bc, bp, bq].Nodup ∧ Fld Z h a "com/example/saturation/saturation/OpenNode" "keys" "[I" (.ref bk) ∧ Fld Z h a "com/example/saturation/saturation/OpenNode" "slots" "[I" (.ref bl) ∧ Fld Z h a "com/example/saturation/saturation/OpenNode" "children" "[I" (.ref bc) ∧ Fld Z h a "com/example/saturation/saturation/OpenNode" "pending" "[[J" (.ref bp) ∧ Fld Z h a "com/example/saturation/saturation/OpenNode" "pendingCount" "[I" (.ref bq) ∧
  own_Av Z h bk .int cap (fun q => .int (K q)) ∧ own_Av Z h bl .int cap (fun q => .int (Int32.ofNat (S q))) ∧ own_Av Z h bc .int (64 * cap) (fun q => .int (Ch q)) ∧ own_Pd Z h n0 ev cap bp bq
def own_mn (x y : Int32) : Int32 := if y < x then y else x
theorem own_nn {x : Int32} : ¬ x < 0 ↔ 0 ≤ x.toInt := by
  have e0 : (0 : Int32).toInt = 0 := rfl
  rw [Int32.lt_iff_toInt_lt, e0]; omega
theorem own_mn_eq {n k : Nat} (hk : k < 2 ^ 31) (h : n < k) : own_mn (Int32.ofNat n) (Int32.ofNat k) = Int32.ofNat n := by
  unfold own_mn
  rw [if_neg]
  rw [own_ltN hk (by omega)]; omega
theorem own_sub {a b : Nat} (h : b ≤ a) : Int32.ofNat a - Int32.ofNat b = Int32.ofNat (a - b) := by
  have e : Int32.ofNat a = Int32.ofNat (a - b) + Int32.ofNat b := by rw [← Int32.ofNat_add]; congr 1; omega
  rw [e]; grind
theorem own_mul2 (a : Nat) : (2 : Int32) * Int32.ofNat a = Int32.ofNat (2 * a) := by rw [Int32.ofNat_mul]; rfl
theorem own_shl6 (a : Nat) (h : a ≤ 8) : (Int32.ofNat a) <<< ((6 : Int32) &&& 31) = Int32.ofNat (64 * a) := by
  have t : ∀ k : Fin 9, (Int32.ofNat k.val) <<< ((6 : Int32) &&& 31) = Int32.ofNat (64 * k.val) := by decide +kernel
  exact t ⟨a, by omega⟩
def own_pl (u : Int32) : Nat := (u &&& 63).toNatClampNeg
theorem own_pl_lt (u : Int32) : ¬ (u &&& 63) < 0 ∧ own_pl u < 64 ∧ (u &&& 63).toInt = own_pl u := by
  have h := c_mask u 63 6 (by decide) (by decide)
  have e : ((2 ^ 6 : Nat) : Int) = 64 := rfl
  rw [e] at h
  have h1 : ¬ (u &&& 63) < 0 := own_nn.mpr (by omega)
  have h2 := nat_of h1
  unfold own_pl
  exact ⟨h1, by omega, h2⟩
theorem own_idx6 (sl : Nat) (u : Int32) (h : sl ≤ 8) : ((Int32.ofNat sl) <<< ((6 : Int32) &&& 31)) ||| (u &&& 63) = Int32.ofNat (64 * sl + own_pl u) := by
  obtain ⟨h1, h2, h3⟩ := own_pl_lt u
  have a1 : ((Int32.ofNat sl) <<< ((6 : Int32) &&& 31)).toInt = 64 * sl := by rw [own_shl6 sl h, own_ofN (by omega)]; omega
  have a2 := c_or ((Int32.ofNat sl) <<< ((6 : Int32) &&& 31)) (u &&& 63) 6 (by decide) 64 rfl (by omega) (by omega) (by omega)
  have r := rng32 (((Int32.ofNat sl) <<< ((6 : Int32) &&& 31)) ||| (u &&& 63))
  rw [← Int32.toInt_inj, own_ofN (by omega)]
  omega
theorem own_ltt {a b c : Int32} (h1 : a < b) (h2 : b < c) : a < c := by rw [Int32.lt_iff_toInt_lt] at *; omega
theorem own_le2 {a b : Int32} (h1 : ¬ a < b) (h2 : ¬ b < a) : a = b := by rw [Int32.lt_iff_toInt_lt] at *; rw [← Int32.toInt_inj]; omega
def own_key (u : Int32) : Int32 := (u.toUInt32 >>> ((6 : Int32) &&& 31).toUInt32).toInt32
theorem own_key_def (u : Int32) : own_key u = (u.toUInt32 >>> ((6 : Int32) &&& 31).toUInt32).toInt32 := rfl
theorem own_keyI (u : Int32) (h : 0 ≤ u.toInt) : (own_key u).toInt = u.toInt / 64 := by
  have a := c_iushr u 6 6 (by decide) (by decide)
  have e : ((2 ^ 6 : Nat) : Int) = 64 := rfl
  have r := rng32 u
  rw [e] at a
  unfold own_key
  rw [a]; omega
theorem own_key_nn (u : Int32) (h : 0 ≤ u.toInt) : 0 ≤ (own_key u).toInt := by rw [own_keyI u h]; omega
theorem own_negr (q : Nat) (h : q ≤ 8) : -(Int32.ofNat (q + 1)) < 0 ∧ (-(-(Int32.ofNat (q + 1)))) - 1 = Int32.ofNat q := by
  have t : ∀ k : Fin 9, -(Int32.ofNat (k.val + 1)) < 0 ∧ (-(-(Int32.ofNat (k.val + 1)))) - 1 = Int32.ofNat k.val := by decide +kernel
  exact t ⟨q, by omega⟩
def own_g (S : Nat → Nat) (Ch : Nat → Int32) : Nat → Nat → Int32 := fun b q => Ch (64 * S b + q)
def own_rw (key : Int32) (f : Nat → Int32) : Nat → List Int32
  | 0 => []
  | j + 1 => own_rw key f j ++ (if f j = 0 then [] else [(key <<< ((6 : Int32) &&& 31)) ||| Int32.ofNat j, f j])
def own_ot (K : Nat → Int32) (g : Nat → Nat → Int32) : Nat → List Int32
  | 0 => []
  | q + 1 => own_ot K g q ++ own_rw (K q) (g q) 64
def own_A (K : Nat → Int32) (g : Nat → Nat → Int32) (q j : Nat) : List Int32 := own_ot K g q ++ own_rw (K q) (g q) j
theorem own_A0 {K : Nat → Int32} {g : Nat → Nat → Int32} {q : Nat} : own_A K g q 0 = own_ot K g q := by simp [own_A, own_rw]
theorem own_A_next {K : Nat → Int32} {g : Nat → Nat → Int32} {q : Nat} : own_A K g q 64 = own_A K g (q + 1) 0 := by rw [own_A0, own_A, own_ot]
theorem own_A_zero {K : Nat → Int32} {S : Nat → Nat} {Ch : Nat → Int32} {q j : Nat} (h : Ch (64 * S q + j) = 0) : own_A K (own_g S Ch) q (j + 1) = own_A K (own_g S Ch) q j := by
  have e : own_g S Ch q j = 0 := h
  simp [own_A, own_rw, e]
theorem own_A_step {K : Nat → Int32} {g : Nat → Nat → Int32} {q j : Nat} (h : ¬ g q j = 0) : own_A K g q (j + 1) = own_A K g q j ++ [((K q) <<< ((6 : Int32) &&& 31)) ||| Int32.ofNat j, g q j] := by
  simp only [own_A, own_rw, if_neg h, List.append_assoc]
theorem own_rw_le (key : Int32) (f : Nat → Int32) : ∀ (a b : Nat), a ≤ b → (own_rw key f a).length ≤ (own_rw key f b).length := by
  intro a b h
  induction b with
  | zero => rw [Nat.le_zero.mp h]; exact Nat.le_refl _
  | succ b ih =>
    rcases Nat.lt_or_ge a (b + 1) with z | z
    · have := ih (by omega)
      simp only [own_rw, List.length_append]; omega
    · rw [show a = b + 1 by omega]; exact Nat.le_refl _
theorem own_ot_le (K : Nat → Int32) (g : Nat → Nat → Int32) : ∀ (a b : Nat), a ≤ b → (own_ot K g a).length ≤ (own_ot K g b).length := by
  intro a b h
  induction b with
  | zero => rw [Nat.le_zero.mp h]; exact Nat.le_refl _
  | succ b ih =>
    rcases Nat.lt_or_ge a (b + 1) with z | z
    · have := ih (by omega)
      simp only [own_ot, List.length_append]; omega
    · rw [show a = b + 1 by omega]; exact Nat.le_refl _
theorem own_A_le (K : Nat → Int32) (g : Nat → Nat → Int32) (q nb j : Nat) (hq : q < nb) (hj : j ≤ 64) : (own_A K g q j).length ≤ (own_ot K g nb).length := by
  have h1 := own_ot_le K g (q + 1) nb hq
  have h2 := own_rw_le (K q) (g q) j 64 hj
  simp only [own_ot, own_A, List.length_append] at *
  omega
theorem own_getD2 (A : List Int32) (a b : Int32) (q : Nat) : (A ++ [a, b]).getD q 0 = if q = A.length + 1 then b else if q = A.length then a else A.getD q 0 := by
  simp only [List.getD_eq_getElem?_getD]
  rcases Nat.lt_trichotomy q A.length with z | z | z
  · rw [List.getElem?_append_left z, if_neg (by omega), if_neg (by omega)]
  · subst z; simp
  · rw [List.getElem?_append_right (by omega)]
    by_cases y : q = A.length + 1
    · subst y; simp
    · rw [if_neg y, if_neg (by omega)]
      have e1 : A[q]? = none := List.getElem?_eq_none (by omega)
      have e2 : [a, b][q - A.length]? = none := List.getElem?_eq_none (by simp; omega)
      rw [e1, e2]
theorem own_getD3 (A : List Int32) (a b : Int32) (q : Nat) : (if q = A.length + 1 then Value.int b else if q = A.length then Value.int a else Value.int (A.getD q 0)) = Value.int ((A ++ [a, b]).getD q 0) := by
  rw [own_getD2]
  by_cases z1 : q = A.length + 1
  · rw [if_pos z1, if_pos z1]
  · rw [if_neg z1, if_neg z1]
    by_cases z2 : q = A.length
    · rw [if_pos z2, if_pos z2]
    · rw [if_neg z2, if_neg z2]
theorem own_orN (sl i : Nat) (h : sl ≤ 8) (hi : i < 64) : Int32.ofNat (64 * sl) ||| Int32.ofNat i = Int32.ofNat (64 * sl + i) := by
  have a0 : (Int32.ofNat (64 * sl)).toInt = 64 * sl := by rw [own_ofN (by omega)]; omega
  have a1 : (Int32.ofNat i).toInt = i := own_ofN (by omega)
  have a2 := c_or (Int32.ofNat (64 * sl)) (Int32.ofNat i) 6 (by decide) 64 rfl (by omega) (by omega) (by omega)
  have r := rng32 (Int32.ofNat (64 * sl) ||| Int32.ofNat i)
  rw [← Int32.toInt_inj, own_ofN (by omega)]
  omega
theorem own_cast2 {p : Program} {e : Env} {below : List Frame} {T t : State} {m : MethodId} {pc : Nat} {x0 x1 x4 x5 : Slot} {a b c d : Int32} (h1 : a = b) (h2 : c = d) (k : Steps p.tables e below (T.setTop (mkF m pc #[x0, x1, .val (.int b), .val (.int d), x4, x5] [])) t) : Steps p.tables e below (T.setTop (mkF m pc #[x0, x1, .val (.int a), .val (.int c), x4, x5] [])) t := by subst h1 h2; exact k
theorem own_pfn (q i : Nat) (bn : Addr) (pf : Nat → Addr) : (if q = i then Value.ref bn else if q < i then Value.ref (pf q) else Value.null) = (if q < i + 1 then Value.ref (if q = i then bn else pf q) else Value.null) := by
  by_cases z : q = i
  · rw [if_pos z, if_pos (by omega), if_pos z]
  · rw [if_neg z]
    by_cases y : q < i
    · rw [if_pos y, if_pos (by omega), if_neg z]
    · rw [if_neg y, if_neg (by omega)]
def own_Pos (nb : Nat) (K : Nat → Int32) (key r : Int32) : Prop := (∃ q, q < nb ∧ r = Int32.ofNat q ∧ K q = key) ∨ (∃ q, q ≤ nb ∧ r = -(Int32.ofNat (q + 1)) ∧ (∀ j, j < q → K j < key) ∧ ∀ j, q ≤ j → j < nb → key < K j)
def own_Ins (nb pos cap : Nat) (key : Int32) (K : Nat → Int32) (S : Nat → Nat) (Ch : Nat → Int32) (K' : Nat → Int32) (S' : Nat → Nat) (Ch' : Nat → Int32) : Prop :=
  (∀ q, q < pos → K' q = K q ∧ S' q = S q) ∧ K' pos = key ∧ S' pos = nb ∧ (∀ q, pos < q → q ≤ nb → K' q = K (q - 1) ∧ S' q = S (q - 1)) ∧ (∀ x, x < 64 * nb → Ch' x = Ch x) ∧ ∀ x, 64 * nb ≤ x → x < 64 * cap → Ch' x = 0
def own_Grow (nb : Nat) (K : Nat → Int32) (S : Nat → Nat) (Ch : Nat → Int32) (key : Int32) (pl : Nat) (uc ct : Int32) (nb' cap' : Nat) (K' : Nat → Int32) (S' : Nat → Nat) (Ch' : Nat → Int32) (ct' : Int32) : Prop :=
  (∃ q, q < nb ∧ K q = key ∧ nb' = nb ∧ K' = K ∧ S' = S ∧ Ch' = (fun x => if x = 64 * S q + pl then uc else Ch x) ∧ ct' = (if Ch (64 * S q + pl) = 0 then ct + 1 else ct)) ∨
  (∃ q, q ≤ nb ∧ (∀ j, j < q → K j < key) ∧ (∀ j, q ≤ j → j < nb → key < K j) ∧ nb' = nb + 1 ∧ ∃ Ch2, own_Ins nb q cap' key K S Ch K' S' Ch2 ∧ Ch' = (fun x => if x = 64 * nb + pl then uc else Ch2 x) ∧ ct' = ct + 1)
theorem own_ins_ok {nb pos cap cap1 : Nat} {key : Int32} {K K1 : Nat → Int32} {S S1 : Nat → Nat} {Ch Ch1 : Nat → Int32} (hp : pos ≤ nb) (hnb : nb ≤ cap) (hK : ∀ q, q < nb → K1 q = K q) (hS : ∀ q, q < nb → S1 q = S q) (hC : ∀ x, x < 64 * nb → Ch1 x = Ch x) (hz : ∀ x, 64 * nb ≤ x → x < 64 * cap1 → Ch1 x = 0) :
    own_Ins nb pos cap1 key K S Ch (fun q => if q = pos then key else if pos + 1 ≤ q ∧ q < pos + 1 + (nb - pos) then K1 (pos + (q - (pos + 1))) else K1 q) (fun q => if q = pos then nb else if pos + 1 ≤ q ∧ q < pos + 1 + (nb - pos) then S1 (pos + (q - (pos + 1))) else S1 q) Ch1 := by
  refine ⟨fun q hq => ?_, if_pos rfl, if_pos rfl, fun q h1 h2 => ?_, hC, hz⟩
  · have e1 : ¬ q = pos := by omega
    have e2 : ¬ (pos + 1 ≤ q ∧ q < pos + 1 + (nb - pos)) := by omega
    simp only [e1, e2, if_false]
    exact ⟨hK q (by omega), hS q (by omega)⟩
  · have e1 : ¬ q = pos := by omega
    have e2 : pos + 1 ≤ q ∧ q < pos + 1 + (nb - pos) := by omega
    have e3 : pos + (q - (pos + 1)) = q - 1 := by omega
    simp only [e1, e2, if_false, if_true, and_self, e3]
    exact ⟨hK _ (by omega), hS _ (by omega)⟩
theorem own_shk (k j : Nat) (hk : k < 33554432) (hj : j < 64) : ((Int32.ofNat k) <<< ((6 : Int32) &&& 31)) ||| Int32.ofNat j = Int32.ofNat (64 * k + j) := by
  have a0 : ((Int32.ofNat k) <<< ((6 : Int32) &&& 31)) = Int32.ofNat (64 * k) := by
    have e : ((6 : Int32) &&& 31) = 6 := by decide
    rw [e, Int32.ofNat_mul, Int32.mul_comm]
    apply Int32.toBitVec_inj.mp
    rw [Int32.toBitVec_shiftLeft, Int32.toBitVec_mul]
    show (Int32.ofNat k).toBitVec <<< (BitVec.smod 6#32 32#32) = (Int32.ofNat k).toBitVec * (64#32)
    rw [show BitVec.smod 6#32 32#32 = 6#32 by decide, BitVec.shiftLeft_eq', BitVec.shiftLeft_eq_mul_twoPow]
    congr 1
  rw [a0]
  have a1 : (Int32.ofNat (64 * k)).toInt = 64 * k := by rw [own_ofN (by omega)]; omega
  have a2 : (Int32.ofNat j).toInt = j := own_ofN (by omega)
  have a3 := c_or (Int32.ofNat (64 * k)) (Int32.ofNat j) 6 (by decide) 64 rfl (by omega) (by omega) (by omega)
  have r := rng32 (Int32.ofNat (64 * k) ||| Int32.ofNat j)
  rw [← Int32.toInt_inj, own_ofN (by omega)]
  omega
def own_cn (F : Nat → Int32) : Nat → List Int32
  | 0 => []
  | x + 1 => own_cn F x ++ (if F x = 0 then [] else [Int32.ofNat x, F x])
theorem own_cn_zero (F : Nat → Int32) (a : Nat) : ∀ b, a ≤ b → (∀ x, a ≤ x → x < b → F x = 0) → own_cn F b = own_cn F a := by
  intro b hb
  induction b with
  | zero => intro _; rw [Nat.le_zero.mp hb]
  | succ b ih =>
    intro h
    rcases Nat.lt_or_ge b a with z | z
    · rw [show a = b + 1 by omega]
    · rw [own_cn, if_pos (h b z (by omega)), List.append_nil]
      exact ih z fun x h1 h2 => h x h1 (by omega)
theorem own_cn_nil (F : Nat → Int32) (b : Nat) (h : ∀ x, x < b → F x = 0) : own_cn F b = [] := by
  rw [own_cn_zero F 0 b (Nat.zero_le _) fun x _ hx => h x hx]; rfl
theorem own_cn_last (F : Nat → Int32) (x b : Nat) (hx : x < b) (hn : ¬ F x = 0) (h : ∀ y, x < y → y < b → F y = 0) : own_cn F b = own_cn F x ++ [Int32.ofNat x, F x] := by
  rw [own_cn_zero F (x + 1) b hx fun y h1 h2 => h y h1 h2, own_cn, if_neg hn]
theorem own_cn_row (F : Nat → Int32) (k : Nat) (hk : k < 33554432) : ∀ j, j ≤ 64 → own_cn F (64 * k + j) = own_cn F (64 * k) ++ own_rw (Int32.ofNat k) (fun q => F (64 * k + q)) j := by
  intro j hj
  induction j with
  | zero => simp [own_rw]
  | succ j ih =>
    rw [show 64 * k + (j + 1) = (64 * k + j) + 1 by omega, own_cn, ih (by omega), own_rw, List.append_assoc, own_shk k j hk (by omega)]
theorem own_rw_congr (key : Int32) (f g : Nat → Int32) : ∀ j, (∀ q, q < j → f q = g q) → own_rw key f j = own_rw key g j := by
  intro j
  induction j with
  | zero => intro _; rfl
  | succ j ih => intro h; rw [own_rw, own_rw, ih fun q hq => h q (by omega), h j (by omega)]
def own_St (nb : Nat) (K : Nat → Int32) (S : Nat → Nat) (Ch : Nat → Int32) (F : Nat → Int32) (k : Nat → Nat) : Prop :=
  (∀ q, q < nb → K q = Int32.ofNat (k q) ∧ k q < 33554432) ∧ (∀ i j, i < j → j < nb → k i < k j) ∧ (∀ q, q < nb → ∀ j, j < 64 → F (64 * k q + j) = Ch (64 * S q + j)) ∧ (∀ x, (∀ q, q < nb → ¬ x / 64 = k q) → F x = 0) ∧ (∀ q, q < nb → S q < nb) ∧ (∀ i j, i < nb → j < nb → S i = S j → i = j)
theorem own_St.hK {nb : Nat} {K : Nat → Int32} {S : Nat → Nat} {Ch F : Nat → Int32} {k : Nat → Nat} (H : own_St nb K S Ch F k) : ∀ q, q < nb → K q = Int32.ofNat (k q) ∧ k q < 33554432 := H.1
theorem own_St.asc {nb : Nat} {K : Nat → Int32} {S : Nat → Nat} {Ch F : Nat → Int32} {k : Nat → Nat} (H : own_St nb K S Ch F k) : ∀ i j, i < j → j < nb → k i < k j := H.2.1
theorem own_St.val {nb : Nat} {K : Nat → Int32} {S : Nat → Nat} {Ch F : Nat → Int32} {k : Nat → Nat} (H : own_St nb K S Ch F k) : ∀ q, q < nb → ∀ j, j < 64 → F (64 * k q + j) = Ch (64 * S q + j) := H.2.2.1
theorem own_St.out {nb : Nat} {K : Nat → Int32} {S : Nat → Nat} {Ch F : Nat → Int32} {k : Nat → Nat} (H : own_St nb K S Ch F k) : ∀ x, (∀ q, q < nb → ¬ x / 64 = k q) → F x = 0 := H.2.2.2.1
theorem own_St.hS {nb : Nat} {K : Nat → Int32} {S : Nat → Nat} {Ch F : Nat → Int32} {k : Nat → Nat} (H : own_St nb K S Ch F k) : ∀ q, q < nb → S q < nb := H.2.2.2.2.1
theorem own_St.inj {nb : Nat} {K : Nat → Int32} {S : Nat → Nat} {Ch F : Nat → Int32} {k : Nat → Nat} (H : own_St nb K S Ch F k) : ∀ i j, i < nb → j < nb → S i = S j → i = j := H.2.2.2.2.2
theorem own_ot_s (K : Nat → Int32) (g : Nat → Nat → Int32) (q e : Nat) (h : e = 64) : own_ot K g (q + 1) = own_ot K g q ++ own_rw (K q) (g q) e := by subst h; rw [own_ot]
theorem own_St.ot {nb : Nat} {K : Nat → Int32} {S : Nat → Nat} {Ch F : Nat → Int32} {k : Nat → Nat} (H : own_St nb K S Ch F k) (B : Nat) (hB : 2147483648 ≤ B) : own_ot K (own_g S Ch) nb = own_cn F B := by
 obtain ⟨e64, h64⟩ : ∃ z, z = 64 := ⟨_, rfl⟩
 have key : ∀ n, n ≤ nb → ∀ B, (∀ i, i < n → 64 * k i + 64 ≤ B) → (∀ x, x < B → (∀ i, i < n → ¬ x / 64 = k i) → F x = 0) → own_cn F B = own_ot K (own_g S Ch) n := by
  intro n
  induction n with
  | zero => intro _ B _ h; rw [own_cn_nil F B fun x hx => h x hx fun i hi => absurd hi (by omega)]; rfl
  | succ n ih =>
   intro hn B h1 h2
   have hk := h1 n (by omega)
   rw [own_cn_zero F (64 * k n + e64) B (by omega) fun x a1 a2 => h2 x a2 fun i hi e => by
    rcases Nat.lt_or_ge i n with z | z
    ·have := H.asc i n z (by omega); omega
    ·have e2 : i = n := by omega
     subst e2; omega]
   rw [own_cn_row F (k n) (H.hK n (by omega)).2 e64 (by omega), own_ot_s K _ n e64 h64, (H.hK n (by omega)).1]
   rw [ih (by omega) (64 * k n) (fun i hi => by have := H.asc i n hi (by omega); omega) fun x hx hxi => h2 x (by omega) fun i hi e => by
    rcases Nat.lt_or_ge i n with z | z
    ·exact hxi i z e
    ·have e2 : i = n := by omega
     subst e2; omega]
   rw [own_rw_congr (Int32.ofNat (k n)) (fun q => F (64 * k n + q)) (own_g S Ch n) e64 fun q hq => H.val n (by omega) q (by omega)]
 exact (key nb (Nat.le_refl _) B (fun i hi => by have := (H.hK i hi).2; omega) fun x _ h => H.out x h).symm
theorem own_St.grow {nb nb' cap' : Nat} {K K' : Nat → Int32} {S S' : Nat → Nat} {Ch Ch' F : Nat → Int32} {k : Nat → Nat} {kk pl : Nat} {uc ct ct' : Int32} (H : own_St nb K S Ch F k) (hkk : kk < 33554432) (hpl : pl < 64) (hcap : nb' ≤ cap')
  (G : own_Grow nb K S Ch (Int32.ofNat kk) pl uc ct nb' cap' K' S' Ch' ct') : (∃ k', own_St nb' K' S' Ch' (fun x => if x = 64 * kk + pl then uc else F x) k') ∧ nb' ≤ nb + 1 ∧ ct' = (if F (64 * kk + pl) = 0 then ct + 1 else ct) := by
 rcases G with ⟨q, hq, e1, rfl, rfl, rfl, rfl, rfl⟩ | ⟨q, hq, l1, l2, rfl, Ch2, ⟨i1, i2, i3, i4, i5, i6⟩, rfl, rfl⟩
 ·have ek : k q = kk := by
   have a := H.hK q hq
   rw [a.1, ← Int32.toInt_inj, own_ofN (by omega), own_ofN (by omega)] at e1
   omega
  refine ⟨⟨k, H.hK, H.asc, fun i hi j hj => ?_, fun x hx => ?_, H.hS, H.inj⟩, by omega, ?_⟩
  ·by_cases z : i = q
   ·subst z
    by_cases y : j = pl
    ·subst y; simp [ek]
    ·have y1 : ¬ 64 * k i + j = 64 * kk + pl := by omega
     have y2 : ¬ 64 * S' i + j = 64 * S' i + pl := by omega
     simp only [if_neg y1, if_neg y2]
     exact H.val i hi j hj
   ·have y1 : ¬ 64 * k i + j = 64 * kk + pl := by
     rcases Nat.lt_or_ge i q with y | y
     ·have := H.asc i q y hq; omega
     ·have := H.asc q i (by omega) hi; omega
    have y2 : ¬ 64 * S' i + j = 64 * S' q + pl := fun e => z (H.inj i q hi hq (by omega))
    simp only [if_neg y1, if_neg y2]
    exact H.val i hi j hj
  ·have y1 : ¬ x = 64 * kk + pl := fun e => hx q hq (by omega)
   simp only [if_neg y1]
   exact H.out x hx
  ·rw [← ek, H.val q hq pl hpl]
 ·have lt1 : ∀ j, j < q → k j < kk := fun j hj => by
   have a := H.hK j (by omega)
   have b := l1 j hj
   rw [a.1, own_ltN (by omega) (by omega)] at b
   exact b
  have lt2 : ∀ j, q ≤ j → j < nb → kk < k j := fun j h1 h2 => by
   have a := H.hK j h2
   have b := l2 j h1 h2
   rw [a.1, own_ltN (by omega) (by omega)] at b
   exact b
  have f0 : ∀ j, j < 64 → F (64 * kk + j) = 0 := fun j hj => H.out _ fun i hi e => by
   rcases Nat.lt_or_ge i q with y | y
   ·have := lt1 i y; omega
   ·have := lt2 i y hi; omega
  refine ⟨⟨fun i => if i < q then k i else if i = q then kk else k (i - 1), fun i hi => ?_, fun i j hij hj => ?_, fun i hi j hj => ?_, fun x hx => ?_, fun i hi => ?_, fun i j hi hj e => ?_⟩, by omega, ?_⟩
  ·show K' i = Int32.ofNat (if i < q then k i else if i = q then kk else k (i - 1)) ∧ (if i < q then k i else if i = q then kk else k (i - 1)) < 33554432
   rcases Nat.lt_trichotomy i q with z | z | z
   ·rw [if_pos z, (i1 i z).1]; exact H.hK i (by omega)
   ·subst z; rw [if_neg (Nat.lt_irrefl _), if_pos rfl]; exact ⟨i2, hkk⟩
   ·rw [if_neg (by omega), if_neg (by omega), (i4 i z (by omega)).1]; exact H.hK (i - 1) (by omega)
  ·show (if i < q then k i else if i = q then kk else k (i - 1)) < (if j < q then k j else if j = q then kk else k (j - 1))
   rcases Nat.lt_trichotomy j q with z | z | z
   ·rw [if_pos (show i < q by omega), if_pos z]; exact H.asc i j hij (by omega)
   ·rw [if_pos (show i < q by omega), if_neg (by omega), if_pos z]; exact lt1 i (by omega)
   ·rw [if_neg (show ¬ j < q by omega), if_neg (show ¬ j = q by omega)]
    rcases Nat.lt_trichotomy i q with y | y | y
    ·rw [if_pos y]; have a := lt1 i y; have b := lt2 (j - 1) (by omega) (by omega); omega
    ·rw [if_neg (by omega), if_pos y]; exact lt2 (j - 1) (by omega) (by omega)
    ·rw [if_neg (by omega), if_neg (by omega)]; exact H.asc (i - 1) (j - 1) (by omega) (by omega)
  ·show (if 64 * (if i < q then k i else if i = q then kk else k (i - 1)) + j = 64 * kk + pl then uc else F (64 * (if i < q then k i else if i = q then kk else k (i - 1)) + j)) = (if 64 * S' i + j = 64 * nb + pl then uc else Ch2 (64 * S' i + j))
   rcases Nat.lt_trichotomy i q with z | z | z
   ·have a := lt1 i z
    have b := H.hS i (by omega)
    rw [if_pos z, (i1 i z).2, if_neg (by omega), if_neg (by omega), i5 _ (by omega)]
    exact H.val i (by omega) j hj
   ·subst z
    rw [if_neg (Nat.lt_irrefl _), if_pos rfl, i3]
    by_cases y : j = pl
    ·subst y; rw [if_pos rfl, if_pos rfl]
    ·rw [if_neg (by omega), if_neg (by omega), i6 _ (by omega) (by omega)]; exact f0 j hj
   ·have a := lt2 (i - 1) (by omega) (by omega)
    have b := H.hS (i - 1) (by omega)
    rw [if_neg (show ¬ i < q by omega), if_neg (show ¬ i = q by omega), (i4 i z (by omega)).2, if_neg (by omega), if_neg (by omega), i5 _ (by omega)]
    exact H.val (i - 1) (by omega) j hj
  ·have y : ¬ x = 64 * kk + pl := fun e => hx q (by omega) (by
    show x / 64 = if q < q then k q else if q = q then kk else k (q - 1)
    rw [if_neg (Nat.lt_irrefl _), if_pos rfl]; omega)
   show (if x = 64 * kk + pl then uc else F x) = 0
   rw [if_neg y]
   refine H.out x fun i hi e => ?_
   rcases Nat.lt_or_ge i q with z | z
   ·exact hx i (by omega) (by show x / 64 = if i < q then k i else if i = q then kk else k (i - 1); rw [if_pos z]; exact e)
   ·exact hx (i + 1) (by omega) (by show x / 64 = if i + 1 < q then k (i + 1) else if i + 1 = q then kk else k (i + 1 - 1); rw [if_neg (by omega), if_neg (by omega)]; exact e)
  ·rcases Nat.lt_trichotomy i q with z | z | z
   ·rw [(i1 i z).2]; have := H.hS i (by omega); omega
   ·subst z; rw [i3]; omega
   ·rw [(i4 i z (by omega)).2]; have := H.hS (i - 1) (by omega); omega
  ·rcases Nat.lt_trichotomy i q with z | z | z
   ·rw [(i1 i z).2] at e
    have b := H.hS i (by omega)
    rcases Nat.lt_trichotomy j q with y | y | y
    ·rw [(i1 j y).2] at e; exact H.inj i j (by omega) (by omega) e
    ·subst y; rw [i3] at e; omega
    ·rw [(i4 j y (by omega)).2] at e; have := H.inj i (j - 1) (by omega) (by omega) e; omega
   ·subst z; rw [i3] at e
    rcases Nat.lt_trichotomy j i with y | y | y
    ·rw [(i1 j y).2] at e; have := H.hS j (by omega); omega
    ·exact y.symm
    ·rw [(i4 j y (by omega)).2] at e; have := H.hS (j - 1) (by omega); omega
   ·rw [(i4 i z (by omega)).2] at e
    have b := H.hS (i - 1) (by omega)
    rcases Nat.lt_trichotomy j q with y | y | y
    ·rw [(i1 j y).2] at e; have := H.inj (i - 1) j (by omega) (by omega) e; omega
    ·subst y; rw [i3] at e; omega
    ·rw [(i4 j y (by omega)).2] at e; have := H.inj (i - 1) (j - 1) (by omega) (by omega) e; omega
  ·rw [if_pos (f0 pl hpl)]
def own_vn (u : Int32) : Nat := u.toInt.toNat
theorem own_vn_eq {u : Int32} (h : 0 ≤ u.toInt) : Int32.ofNat (own_vn u) = u ∧ own_key u = Int32.ofNat (own_vn u / 64) ∧ own_pl u = own_vn u % 64 ∧ own_vn u < 2147483648 ∧ u.toInt = own_vn u := by
  have r := rng32 u
  have a := own_keyI u h
  have b := own_pl_lt u
  have c := c_mask u 63 6 (by decide) (by decide)
  have e : ((2 ^ 6 : Nat) : Int) = 64 := rfl
  have l : u.toInt < 2147483648 := by omega
  have f : u.toInt = own_vn u := by unfold own_vn; omega
  have k : u.toInt / 64 = ((own_vn u / 64 : Nat) : Int) := by omega
  refine ⟨?_, ?_, ?_, by omega, f⟩
  · rw [← Int32.toInt_inj, own_ofN (by omega)]; exact f.symm
  · rw [← Int32.toInt_inj, own_ofN (by omega), a, k]
  · rw [e] at c; omega
def own_U (F : Nat → Int32) (u c : Int32) : Nat → Int32 := fun x => if x = own_vn u then c else F x
def own_F0 : Nat → Int32 := fun _ => 0
def own_Ex (F : Nat → Int32) (cn : Nat) (fx : Nat → Value) : Prop := ∀ B, 2147483648 ≤ B → (own_cn F B).length = 2 * cn ∧ ∀ q, q < 2 * cn → fx q = .int ((own_cn F B).getD q 0)
theorem own_lt_vn {a b : Int32} (ha : 0 ≤ a.toInt) (hb : 0 ≤ b.toInt) : a < b ↔ own_vn a < own_vn b := by
  rw [Int32.lt_iff_toInt_lt, (own_vn_eq ha).2.2.2.2, (own_vn_eq hb).2.2.2.2]; omega
theorem own_eq_vn {a b : Int32} (ha : 0 ≤ a.toInt) (hb : 0 ≤ b.toInt) : a = b ↔ own_vn a = own_vn b := by
  rw [← Int32.toInt_inj, (own_vn_eq ha).2.2.2.2, (own_vn_eq hb).2.2.2.2]; omega
theorem own_ex0 {fx : Nat → Value} : own_Ex own_F0 0 fx := fun B _ => by
  rw [own_cn_nil own_F0 B fun x _ => rfl]
  exact ⟨rfl, fun q hq => absurd hq (by omega)⟩
theorem own_ex1 {F : Nat → Int32} {fx : Nat → Value} {u1 d1 : Int32} (hu1 : 0 ≤ u1.toInt) (hF1 : F (own_vn u1) = d1) (hd1 : d1 ≠ 0) (h0 : ∀ y, y ≠ own_vn u1 → F y = 0) (f0 : fx 0 = .int u1) (f1 : fx 1 = .int d1) : own_Ex F 1 fx := fun B hB => by
  have b1 := own_vn_eq hu1
  have e : own_cn F B = [u1, d1] := by
    rw [own_cn_last F (own_vn u1) B (by omega) (by rw [hF1]; exact hd1) (fun y h1 h2 => h0 y (by omega)), hF1, b1.1]
    rw [own_cn_nil F (own_vn u1) fun y hy => h0 y (by omega)]
    rfl
  rw [e]
  refine ⟨rfl, fun q hq => ?_⟩
  have hq : q = 0 ∨ q = 1 := by omega
  rcases hq with rfl | rfl
  · exact f0
  · exact f1
theorem own_ex2 {F : Nat → Int32} {fx : Nat → Value} {u1 u2 d1 d2 : Int32} (hu1 : 0 ≤ u1.toInt) (hF1 : F (own_vn u1) = d1) (hd1 : d1 ≠ 0) (hu2 : 0 ≤ u2.toInt) (hF2 : F (own_vn u2) = d2) (hd2 : d2 ≠ 0) (hl1 : own_vn u1 < own_vn u2) (h0 : ∀ y, y ≠ own_vn u1 → y ≠ own_vn u2 → F y = 0) (f0 : fx 0 = .int u1) (f1 : fx 1 = .int d1) (f2 : fx 2 = .int u2) (f3 : fx 3 = .int d2) : own_Ex F 2 fx := fun B hB => by
  have b1 := own_vn_eq hu1
  have b2 := own_vn_eq hu2
  have e : own_cn F B = [u1, d1, u2, d2] := by
    rw [own_cn_last F (own_vn u2) B (by omega) (by rw [hF2]; exact hd2) (fun y h1 h2 => h0 y (by omega) (by omega)), hF2, b2.1]
    rw [own_cn_last F (own_vn u1) (own_vn u2) (by omega) (by rw [hF1]; exact hd1) (fun y h1 h2 => h0 y (by omega) (by omega)), hF1, b1.1]
    rw [own_cn_nil F (own_vn u1) fun y hy => h0 y (by omega) (by omega)]
    rfl
  rw [e]
  refine ⟨rfl, fun q hq => ?_⟩
  have hq : q = 0 ∨ q = 1 ∨ q = 2 ∨ q = 3 := by omega
  rcases hq with rfl | rfl | rfl | rfl
  · exact f0
  · exact f1
  · exact f2
  · exact f3
theorem own_ex3 {F : Nat → Int32} {fx : Nat → Value} {u1 u2 u3 d1 d2 d3 : Int32} (hu1 : 0 ≤ u1.toInt) (hF1 : F (own_vn u1) = d1) (hd1 : d1 ≠ 0) (hu2 : 0 ≤ u2.toInt) (hF2 : F (own_vn u2) = d2) (hd2 : d2 ≠ 0) (hu3 : 0 ≤ u3.toInt) (hF3 : F (own_vn u3) = d3) (hd3 : d3 ≠ 0) (hl1 : own_vn u1 < own_vn u2) (hl2 : own_vn u2 < own_vn u3) (h0 : ∀ y, y ≠ own_vn u1 → y ≠ own_vn u2 → y ≠ own_vn u3 → F y = 0) (f0 : fx 0 = .int u1) (f1 : fx 1 = .int d1) (f2 : fx 2 = .int u2) (f3 : fx 3 = .int d2) (f4 : fx 4 = .int u3) (f5 : fx 5 = .int d3) : own_Ex F 3 fx := fun B hB => by
  have b1 := own_vn_eq hu1
  have b2 := own_vn_eq hu2
  have b3 := own_vn_eq hu3
  have e : own_cn F B = [u1, d1, u2, d2, u3, d3] := by
    rw [own_cn_last F (own_vn u3) B (by omega) (by rw [hF3]; exact hd3) (fun y h1 h2 => h0 y (by omega) (by omega) (by omega)), hF3, b3.1]
    rw [own_cn_last F (own_vn u2) (own_vn u3) (by omega) (by rw [hF2]; exact hd2) (fun y h1 h2 => h0 y (by omega) (by omega) (by omega)), hF2, b2.1]
    rw [own_cn_last F (own_vn u1) (own_vn u2) (by omega) (by rw [hF1]; exact hd1) (fun y h1 h2 => h0 y (by omega) (by omega) (by omega)), hF1, b1.1]
    rw [own_cn_nil F (own_vn u1) fun y hy => h0 y (by omega) (by omega) (by omega)]
    rfl
  rw [e]
  refine ⟨rfl, fun q hq => ?_⟩
  have hq : q = 0 ∨ q = 1 ∨ q = 2 ∨ q = 3 ∨ q = 4 ∨ q = 5 := by omega
  rcases hq with rfl | rfl | rfl | rfl | rfl | rfl
  · exact f0
  · exact f1
  · exact f2
  · exact f3
  · exact f4
  · exact f5
def own_Fin (nI : Int32) (F : Nat → Int32) (uw c3 dg : Int32) (cn : Nat) (fx : Nat → Value) : Prop := cn ≤ 3 ∧ (dg = 0 → Int32.ofNat cn = nI ∧ own_Ex F cn fx) ∧ (¬ dg = 0 → Int32.ofNat cn = (if F (own_vn uw) = 0 then nI + 1 else nI) ∧ own_Ex (own_U F uw c3) cn fx)
theorem own_Fno {nI uw c3 dg : Int32} {F : Nat → Int32} {cn : Nat} {fx : Nat → Value} (hc : cn ≤ 3) (hd : dg = 0) (e : Int32.ofNat cn = nI) (E : own_Ex F cn fx) : own_Fin nI F uw c3 dg cn fx := ⟨hc, fun _ => ⟨e, E⟩, fun z => absurd hd z⟩
theorem own_Fyes {nI uw c3 dg : Int32} {F : Nat → Int32} {cn : Nat} {fx : Nat → Value} (hc : cn ≤ 3) (hd : ¬ dg = 0) (e : Int32.ofNat cn = (if F (own_vn uw) = 0 then nI + 1 else nI)) (E : own_Ex (own_U F uw c3) cn fx) : own_Fin nI F uw c3 dg cn fx := ⟨hc, fun z => absurd z hd, fun _ => ⟨e, E⟩⟩
theorem own_b00 {uw c3 dg : Int32} {fx : Nat → Value} (hd : dg = 0) : own_Fin 0 own_F0 uw c3 dg 0 fx := by
  refine own_Fno (by decide) hd rfl ?_
  exact own_ex0
theorem own_b0w {uw c3 dg : Int32} {fx : Nat → Value} (pw : 0 ≤ uw.toInt) (z3 : c3 ≠ 0) (hd : ¬ dg = 0) (f0 : fx 0 = .int uw) (f1 : fx 1 = .int c3) : own_Fin 0 own_F0 uw c3 dg 1 fx := by
  refine own_Fyes (by decide) hd (by rw [if_pos (by simp only [own_U, own_F0]; repeat (first | rw [if_pos trivial] | rw [if_pos (by omega)] | rw [if_neg (by omega)]))]; rfl) ?_
  exact own_ex1 pw (by simp only [own_U, own_F0]; repeat (first | rw [if_pos trivial] | rw [if_pos (by omega)] | rw [if_neg (by omega)])) z3 (fun y y0 => by simp only [own_U, own_F0]; repeat (first | rw [if_pos trivial] | rw [if_pos (by omega)] | rw [if_neg (by omega)])) f0 f1
theorem own_b10 {v1 c1 uw c3 dg : Int32} {fx : Nat → Value} (p1 : 0 ≤ v1.toInt) (z1 : c1 ≠ 0) (hd : dg = 0) (f0 : fx 0 = .int v1) (f1 : fx 1 = .int c1) : own_Fin 1 (own_U own_F0 v1 c1) uw c3 dg 1 fx := by
  refine own_Fno (by decide) hd rfl ?_
  exact own_ex1 p1 (by simp only [own_U, own_F0]; repeat (first | rw [if_pos trivial] | rw [if_pos (by omega)] | rw [if_neg (by omega)])) z1 (fun y y0 => by simp only [own_U, own_F0]; repeat (first | rw [if_pos trivial] | rw [if_pos (by omega)] | rw [if_neg (by omega)])) f0 f1
theorem own_b1e {v1 c1 uw c3 dg : Int32} {fx : Nat → Value} (p1 : 0 ≤ v1.toInt) (z1 : c1 ≠ 0) (pw : 0 ≤ uw.toInt) (z3 : c3 ≠ 0) (hd : ¬ dg = 0) (h0 : uw = v1) (f0 : fx 0 = .int v1) (f1 : fx 1 = .int c3) : own_Fin 1 (own_U own_F0 v1 c1) uw c3 dg 1 fx := by
  rw [own_eq_vn pw p1] at h0
  have e : (own_U own_F0 v1 c1) (own_vn uw) = c1 := by simp only [own_U, own_F0]; repeat (first | rw [if_pos trivial] | rw [if_pos (by omega)] | rw [if_neg (by omega)])
  refine own_Fyes (by decide) hd (by rw [e, if_neg z1]; rfl) ?_
  exact own_ex1 p1 (by simp only [own_U, own_F0]; repeat (first | rw [if_pos trivial] | rw [if_pos (by omega)] | rw [if_neg (by omega)])) z3 (fun y y0 => by simp only [own_U, own_F0]; repeat (first | rw [if_pos trivial] | rw [if_pos (by omega)] | rw [if_neg (by omega)])) f0 f1
theorem own_b1l {v1 c1 uw c3 dg : Int32} {fx : Nat → Value} (p1 : 0 ≤ v1.toInt) (z1 : c1 ≠ 0) (pw : 0 ≤ uw.toInt) (z3 : c3 ≠ 0) (hd : ¬ dg = 0) (h0 : ¬ uw = v1) (h1 : uw < v1) (f0 : fx 0 = .int uw) (f1 : fx 1 = .int c3) (f2 : fx 2 = .int v1) (f3 : fx 3 = .int c1) : own_Fin 1 (own_U own_F0 v1 c1) uw c3 dg 2 fx := by
  rw [own_eq_vn pw p1] at h0
  rw [own_lt_vn pw p1] at h1
  refine own_Fyes (by decide) hd (by rw [if_pos (by simp only [own_U, own_F0]; repeat (first | rw [if_pos trivial] | rw [if_pos (by omega)] | rw [if_neg (by omega)]))]; rfl) ?_
  exact own_ex2 pw (by simp only [own_U, own_F0]; repeat (first | rw [if_pos trivial] | rw [if_pos (by omega)] | rw [if_neg (by omega)])) z3 p1 (by simp only [own_U, own_F0]; repeat (first | rw [if_pos trivial] | rw [if_pos (by omega)] | rw [if_neg (by omega)])) z1 (by omega) (fun y y0 y1 => by simp only [own_U, own_F0]; repeat (first | rw [if_pos trivial] | rw [if_pos (by omega)] | rw [if_neg (by omega)])) f0 f1 f2 f3
theorem own_b1g {v1 c1 uw c3 dg : Int32} {fx : Nat → Value} (p1 : 0 ≤ v1.toInt) (z1 : c1 ≠ 0) (pw : 0 ≤ uw.toInt) (z3 : c3 ≠ 0) (hd : ¬ dg = 0) (h0 : ¬ uw = v1) (h1 : ¬ uw < v1) (f0 : fx 0 = .int v1) (f1 : fx 1 = .int c1) (f2 : fx 2 = .int uw) (f3 : fx 3 = .int c3) : own_Fin 1 (own_U own_F0 v1 c1) uw c3 dg 2 fx := by
  rw [own_eq_vn pw p1] at h0
  rw [own_lt_vn pw p1] at h1
  refine own_Fyes (by decide) hd (by rw [if_pos (by simp only [own_U, own_F0]; repeat (first | rw [if_pos trivial] | rw [if_pos (by omega)] | rw [if_neg (by omega)]))]; rfl) ?_
  exact own_ex2 p1 (by simp only [own_U, own_F0]; repeat (first | rw [if_pos trivial] | rw [if_pos (by omega)] | rw [if_neg (by omega)])) z1 pw (by simp only [own_U, own_F0]; repeat (first | rw [if_pos trivial] | rw [if_pos (by omega)] | rw [if_neg (by omega)])) z3 (by omega) (fun y y0 y1 => by simp only [own_U, own_F0]; repeat (first | rw [if_pos trivial] | rw [if_pos (by omega)] | rw [if_neg (by omega)])) f0 f1 f2 f3
theorem own_b20 {v1 c1 v2 c2 uw c3 dg : Int32} {fx : Nat → Value} (p1 : 0 ≤ v1.toInt) (z1 : c1 ≠ 0) (p2 : 0 ≤ v2.toInt) (z2 : c2 ≠ 0) (hl : v1 < v2) (hd : dg = 0) (f0 : fx 0 = .int v1) (f1 : fx 1 = .int c1) (f2 : fx 2 = .int v2) (f3 : fx 3 = .int c2) : own_Fin 2 (own_U (own_U own_F0 v1 c1) v2 c2) uw c3 dg 2 fx := by
  rw [own_lt_vn p1 p2] at hl
  refine own_Fno (by decide) hd rfl ?_
  exact own_ex2 p1 (by simp only [own_U, own_F0]; repeat (first | rw [if_pos trivial] | rw [if_pos (by omega)] | rw [if_neg (by omega)])) z1 p2 (by simp only [own_U, own_F0]; repeat (first | rw [if_pos trivial] | rw [if_pos (by omega)] | rw [if_neg (by omega)])) z2 (by omega) (fun y y0 y1 => by simp only [own_U, own_F0]; repeat (first | rw [if_pos trivial] | rw [if_pos (by omega)] | rw [if_neg (by omega)])) f0 f1 f2 f3
theorem own_b2e {v1 c1 v2 c2 uw c3 dg : Int32} {fx : Nat → Value} (p1 : 0 ≤ v1.toInt) (z1 : c1 ≠ 0) (p2 : 0 ≤ v2.toInt) (z2 : c2 ≠ 0) (hl : v1 < v2) (pw : 0 ≤ uw.toInt) (z3 : c3 ≠ 0) (hd : ¬ dg = 0) (h0 : uw = v1) (f0 : fx 0 = .int v1) (f1 : fx 1 = .int c3) (f2 : fx 2 = .int v2) (f3 : fx 3 = .int c2) : own_Fin 2 (own_U (own_U own_F0 v1 c1) v2 c2) uw c3 dg 2 fx := by
  rw [own_lt_vn p1 p2] at hl
  rw [own_eq_vn pw p1] at h0
  have e : (own_U (own_U own_F0 v1 c1) v2 c2) (own_vn uw) = c1 := by simp only [own_U, own_F0]; repeat (first | rw [if_pos trivial] | rw [if_pos (by omega)] | rw [if_neg (by omega)])
  refine own_Fyes (by decide) hd (by rw [e, if_neg z1]; rfl) ?_
  exact own_ex2 p1 (by simp only [own_U, own_F0]; repeat (first | rw [if_pos trivial] | rw [if_pos (by omega)] | rw [if_neg (by omega)])) z3 p2 (by simp only [own_U, own_F0]; repeat (first | rw [if_pos trivial] | rw [if_pos (by omega)] | rw [if_neg (by omega)])) z2 (by omega) (fun y y0 y1 => by simp only [own_U, own_F0]; repeat (first | rw [if_pos trivial] | rw [if_pos (by omega)] | rw [if_neg (by omega)])) f0 f1 f2 f3
theorem own_b2f {v1 c1 v2 c2 uw c3 dg : Int32} {fx : Nat → Value} (p1 : 0 ≤ v1.toInt) (z1 : c1 ≠ 0) (p2 : 0 ≤ v2.toInt) (z2 : c2 ≠ 0) (hl : v1 < v2) (pw : 0 ≤ uw.toInt) (z3 : c3 ≠ 0) (hd : ¬ dg = 0) (h0 : ¬ uw = v1) (h1 : uw = v2) (f0 : fx 0 = .int v1) (f1 : fx 1 = .int c1) (f2 : fx 2 = .int v2) (f3 : fx 3 = .int c3) : own_Fin 2 (own_U (own_U own_F0 v1 c1) v2 c2) uw c3 dg 2 fx := by
  rw [own_lt_vn p1 p2] at hl
  rw [own_eq_vn pw p1] at h0
  rw [own_eq_vn pw p2] at h1
  have e : (own_U (own_U own_F0 v1 c1) v2 c2) (own_vn uw) = c2 := by simp only [own_U, own_F0]; repeat (first | rw [if_pos trivial] | rw [if_pos (by omega)] | rw [if_neg (by omega)])
  refine own_Fyes (by decide) hd (by rw [e, if_neg z2]; rfl) ?_
  exact own_ex2 p1 (by simp only [own_U, own_F0]; repeat (first | rw [if_pos trivial] | rw [if_pos (by omega)] | rw [if_neg (by omega)])) z1 p2 (by simp only [own_U, own_F0]; repeat (first | rw [if_pos trivial] | rw [if_pos (by omega)] | rw [if_neg (by omega)])) z3 (by omega) (fun y y0 y1 => by simp only [own_U, own_F0]; repeat (first | rw [if_pos trivial] | rw [if_pos (by omega)] | rw [if_neg (by omega)])) f0 f1 f2 f3
theorem own_b2l {v1 c1 v2 c2 uw c3 dg : Int32} {fx : Nat → Value} (p1 : 0 ≤ v1.toInt) (z1 : c1 ≠ 0) (p2 : 0 ≤ v2.toInt) (z2 : c2 ≠ 0) (hl : v1 < v2) (pw : 0 ≤ uw.toInt) (z3 : c3 ≠ 0) (hd : ¬ dg = 0) (h0 : ¬ uw = v1) (h1 : ¬ uw = v2) (h2 : uw < v1) (f0 : fx 0 = .int uw) (f1 : fx 1 = .int c3) (f2 : fx 2 = .int v1) (f3 : fx 3 = .int c1) (f4 : fx 4 = .int v2) (f5 : fx 5 = .int c2) : own_Fin 2 (own_U (own_U own_F0 v1 c1) v2 c2) uw c3 dg 3 fx := by
  rw [own_lt_vn p1 p2] at hl
  rw [own_eq_vn pw p1] at h0
  rw [own_eq_vn pw p2] at h1
  rw [own_lt_vn pw p1] at h2
  refine own_Fyes (by decide) hd (by rw [if_pos (by simp only [own_U, own_F0]; repeat (first | rw [if_pos trivial] | rw [if_pos (by omega)] | rw [if_neg (by omega)]))]; rfl) ?_
  exact own_ex3 pw (by simp only [own_U, own_F0]; repeat (first | rw [if_pos trivial] | rw [if_pos (by omega)] | rw [if_neg (by omega)])) z3 p1 (by simp only [own_U, own_F0]; repeat (first | rw [if_pos trivial] | rw [if_pos (by omega)] | rw [if_neg (by omega)])) z1 p2 (by simp only [own_U, own_F0]; repeat (first | rw [if_pos trivial] | rw [if_pos (by omega)] | rw [if_neg (by omega)])) z2 (by omega) (by omega) (fun y y0 y1 y2 => by simp only [own_U, own_F0]; repeat (first | rw [if_pos trivial] | rw [if_pos (by omega)] | rw [if_neg (by omega)])) f0 f1 f2 f3 f4 f5
theorem own_b2m {v1 c1 v2 c2 uw c3 dg : Int32} {fx : Nat → Value} (p1 : 0 ≤ v1.toInt) (z1 : c1 ≠ 0) (p2 : 0 ≤ v2.toInt) (z2 : c2 ≠ 0) (hl : v1 < v2) (pw : 0 ≤ uw.toInt) (z3 : c3 ≠ 0) (hd : ¬ dg = 0) (h0 : ¬ uw = v1) (h1 : ¬ uw = v2) (h2 : ¬ uw < v1) (h3 : uw < v2) (f0 : fx 0 = .int v1) (f1 : fx 1 = .int c1) (f2 : fx 2 = .int uw) (f3 : fx 3 = .int c3) (f4 : fx 4 = .int v2) (f5 : fx 5 = .int c2) : own_Fin 2 (own_U (own_U own_F0 v1 c1) v2 c2) uw c3 dg 3 fx := by
  rw [own_lt_vn p1 p2] at hl
  rw [own_eq_vn pw p1] at h0
  rw [own_eq_vn pw p2] at h1
  rw [own_lt_vn pw p1] at h2
  rw [own_lt_vn pw p2] at h3
  refine own_Fyes (by decide) hd (by rw [if_pos (by simp only [own_U, own_F0]; repeat (first | rw [if_pos trivial] | rw [if_pos (by omega)] | rw [if_neg (by omega)]))]; rfl) ?_
  exact own_ex3 p1 (by simp only [own_U, own_F0]; repeat (first | rw [if_pos trivial] | rw [if_pos (by omega)] | rw [if_neg (by omega)])) z1 pw (by simp only [own_U, own_F0]; repeat (first | rw [if_pos trivial] | rw [if_pos (by omega)] | rw [if_neg (by omega)])) z3 p2 (by simp only [own_U, own_F0]; repeat (first | rw [if_pos trivial] | rw [if_pos (by omega)] | rw [if_neg (by omega)])) z2 (by omega) (by omega) (fun y y0 y1 y2 => by simp only [own_U, own_F0]; repeat (first | rw [if_pos trivial] | rw [if_pos (by omega)] | rw [if_neg (by omega)])) f0 f1 f2 f3 f4 f5
theorem own_b2g {v1 c1 v2 c2 uw c3 dg : Int32} {fx : Nat → Value} (p1 : 0 ≤ v1.toInt) (z1 : c1 ≠ 0) (p2 : 0 ≤ v2.toInt) (z2 : c2 ≠ 0) (hl : v1 < v2) (pw : 0 ≤ uw.toInt) (z3 : c3 ≠ 0) (hd : ¬ dg = 0) (h0 : ¬ uw = v1) (h1 : ¬ uw = v2) (h2 : ¬ uw < v1) (h3 : ¬ uw < v2) (f0 : fx 0 = .int v1) (f1 : fx 1 = .int c1) (f2 : fx 2 = .int v2) (f3 : fx 3 = .int c2) (f4 : fx 4 = .int uw) (f5 : fx 5 = .int c3) : own_Fin 2 (own_U (own_U own_F0 v1 c1) v2 c2) uw c3 dg 3 fx := by
  rw [own_lt_vn p1 p2] at hl
  rw [own_eq_vn pw p1] at h0
  rw [own_eq_vn pw p2] at h1
  rw [own_lt_vn pw p1] at h2
  rw [own_lt_vn pw p2] at h3
  refine own_Fyes (by decide) hd (by rw [if_pos (by simp only [own_U, own_F0]; repeat (first | rw [if_pos trivial] | rw [if_pos (by omega)] | rw [if_neg (by omega)]))]; rfl) ?_
  exact own_ex3 p1 (by simp only [own_U, own_F0]; repeat (first | rw [if_pos trivial] | rw [if_pos (by omega)] | rw [if_neg (by omega)])) z1 p2 (by simp only [own_U, own_F0]; repeat (first | rw [if_pos trivial] | rw [if_pos (by omega)] | rw [if_neg (by omega)])) z2 pw (by simp only [own_U, own_F0]; repeat (first | rw [if_pos trivial] | rw [if_pos (by omega)] | rw [if_neg (by omega)])) z3 (by omega) (by omega) (fun y y0 y1 y2 => by simp only [own_U, own_F0]; repeat (first | rw [if_pos trivial] | rw [if_pos (by omega)] | rw [if_neg (by omega)])) f0 f1 f2 f3 f4 f5
theorem own_St0 {K : Nat → Int32} {S : Nat → Nat} {Ch : Nat → Int32} : own_St 0 K S Ch own_F0 (fun _ => 0) :=
  ⟨fun q hq => absurd hq (by omega), fun i j _ hj => absurd hj (by omega), fun q hq => absurd hq (by omega), fun _ _ => rfl, fun q hq => absurd hq (by omega), fun i j hi => absurd hi (by omega)⟩
theorem own_St1 {v1 c1 : Int32} (p1 : 0 ≤ v1.toInt) : own_St 1 (fun q => if q = 0 then own_key v1 else 0) (fun _ => 0) (fun x => if x = own_pl v1 then c1 else 0) (own_U own_F0 v1 c1) (fun _ => own_vn v1 / 64) := by
  obtain ⟨a1, a2, a3, a4, -⟩ := own_vn_eq p1
  refine ⟨fun q hq => ?_, fun i j _ hj => absurd hj (by omega), fun q hq j hj => ?_, fun x hx => ?_, fun q hq => Nat.zero_lt_one, fun i j hi hj _ => by omega⟩
  · have e : q = 0 := by omega
    subst e
    exact ⟨a2, show own_vn v1 / 64 < _ by omega⟩
  · simp only [own_U, own_F0, a3]
    by_cases z : j = own_vn v1 % 64
    · rw [if_pos (by omega), if_pos (by omega)]
    · rw [if_neg (by omega), if_neg (by omega)]
  · have : ¬ x / 64 = own_vn v1 / 64 := hx 0 (by omega)
    simp only [own_U, own_F0]
    rw [if_neg (by omega)]
theorem own_St2s {v1 c1 v2 c2 : Int32} (p1 : 0 ≤ v1.toInt) (p2 : 0 ≤ v2.toInt) (hk : own_key v2 = own_key v1) : own_St 1 (fun q => if q = 0 then own_key v1 else 0) (fun _ => 0) (fun x => if x = own_pl v2 then c2 else if x = own_pl v1 then c1 else 0) (own_U (own_U own_F0 v1 c1) v2 c2) (fun _ => own_vn v1 / 64) := by
  obtain ⟨a1, a2, a3, a4, -⟩ := own_vn_eq p1
  obtain ⟨b1, b2, b3, b4, -⟩ := own_vn_eq p2
  have hd : own_vn v2 / 64 = own_vn v1 / 64 := by
    rw [a2, b2, ← Int32.toInt_inj, own_ofN (by omega), own_ofN (by omega)] at hk; omega
  refine ⟨fun q hq => ?_, fun i j _ hj => absurd hj (by omega), fun q hq j hj => ?_, fun x hx => ?_, fun q hq => Nat.zero_lt_one, fun i j hi hj _ => by omega⟩
  · have e : q = 0 := by omega
    subst e
    exact ⟨a2, show own_vn v1 / 64 < _ by omega⟩
  · simp only [own_U, own_F0, a3, b3]
    by_cases y : j = own_vn v2 % 64
    · rw [if_pos (by omega), if_pos (by omega)]
    · rw [if_neg (by omega), if_neg (show ¬ 64 * 0 + j = own_vn v2 % 64 by omega)]
      by_cases z : j = own_vn v1 % 64
      · rw [if_pos (by omega), if_pos (by omega)]
      · rw [if_neg (by omega), if_neg (by omega)]
  · have : ¬ x / 64 = own_vn v1 / 64 := hx 0 (by omega)
    simp only [own_U, own_F0]
    rw [if_neg (by omega), if_neg (by omega)]
theorem own_St2d {v1 c1 v2 c2 : Int32} (p1 : 0 ≤ v1.toInt) (p2 : 0 ≤ v2.toInt) (hl : v1 < v2) (hk : ¬ own_key v2 = own_key v1) : own_St 2 (fun q => if q = 1 then own_key v2 else if q = 0 then own_key v1 else 0) (fun q => if q = 1 then 1 else 0) (fun x => if x = 64 + own_pl v2 then c2 else if x = own_pl v1 then c1 else 0) (own_U (own_U own_F0 v1 c1) v2 c2) (fun q => if q = 1 then own_vn v2 / 64 else own_vn v1 / 64) := by
 obtain ⟨a1, a2, a3, a4, -⟩ := own_vn_eq p1
 obtain ⟨b1, b2, b3, b4, -⟩ := own_vn_eq p2
 rw [own_lt_vn p1 p2] at hl
 have hd : ¬ own_vn v2 / 64 = own_vn v1 / 64 := fun z => hk (by rw [a2, b2, z])
 refine ⟨fun q hq => ?_, fun i j hi hj => ?_, fun q hq j hj => ?_, fun x hx => ?_, fun q hq => ?_, fun i j hi hj e => ?_⟩
 ·have e : q = 0 ∨ q = 1 := by omega
  rcases e with rfl | rfl
  ·exact ⟨a2, show own_vn v1 / 64 < _ by omega⟩
  ·exact ⟨b2, show own_vn v2 / 64 < _ by omega⟩
 ·have e1 : i = 0 := by omega
  have e2 : j = 1 := by omega
  subst e1 e2
  show own_vn v1 / 64 < own_vn v2 / 64
  omega
 ·have e : q = 0 ∨ q = 1 := by omega
  rcases e with rfl | rfl
  ·show own_U (own_U own_F0 v1 c1) v2 c2 (64 * (own_vn v1 / 64) + j) = (if 64 * 0 + j = 64 + own_pl v2 then c2 else if 64 * 0 + j = own_pl v1 then c1 else 0)
   simp only [own_U, own_F0, a3, b3]
   rw [if_neg (by omega), if_neg (show ¬ 64 * 0 + j = 64 + own_vn v2 % 64 by omega)]
   by_cases z : j = own_vn v1 % 64
   ·rw [if_pos (by omega), if_pos (by omega)]
   ·rw [if_neg (by omega), if_neg (by omega)]
  ·show own_U (own_U own_F0 v1 c1) v2 c2 (64 * (own_vn v2 / 64) + j) = (if 64 * 1 + j = 64 + own_pl v2 then c2 else if 64 * 1 + j = own_pl v1 then c1 else 0)
   simp only [own_U, own_F0, a3, b3]
   by_cases z : j = own_vn v2 % 64
   ·rw [if_pos (by omega), if_pos (by omega)]
   ·rw [if_neg (by omega), if_neg (by omega), if_neg (by omega), if_neg (by omega)]
 ·have z0 := hx 0 (by omega)
  have z1 := hx 1 (by omega)
  have z0 : ¬ x / 64 = own_vn v1 / 64 := z0
  have z1 : ¬ x / 64 = own_vn v2 / 64 := z1
  simp only [own_U, own_F0]
  rw [if_neg (by omega), if_neg (by omega)]
 ·show (if q = 1 then 1 else 0) < 2
  by_cases z : q = 1
  ·rw [if_pos z]; omega
  ·rw [if_neg z]; omega
 ·have e : (if i = 1 then 1 else 0) = (if j = 1 then 1 else 0) := e
  by_cases z : i = 1 <;> by_cases y : j = 1 <;> simp [z, y] at e <;> omega
theorem own_St.asc01 {nb : Nat} {K : Nat → Int32} {S : Nat → Nat} {Ch F : Nat → Int32} {k : Nat → Nat} (H : own_St nb K S Ch F k) (h : nb = 2) : K 0 < K 1 := by
  have a := H.hK 0 (by omega)
  have b := H.hK 1 (by omega)
  have c := H.asc 0 1 (by omega) (by omega)
  rw [a.1, b.1, own_ltN (by omega) (by omega)]; exact c
theorem own_St.growU {nb nb' cap' : Nat} {K K' : Nat → Int32} {S S' : Nat → Nat} {Ch Ch' F : Nat → Int32} {k : Nat → Nat} {uw uc ct ct' : Int32} (H : own_St nb K S Ch F k) (hu : 0 ≤ uw.toInt) (hcap : nb' ≤ cap')
    (G : own_Grow nb K S Ch (own_key uw) (own_pl uw) uc ct nb' cap' K' S' Ch' ct') : (∃ k', own_St nb' K' S' Ch' (own_U F uw uc) k') ∧ nb' ≤ nb + 1 ∧ ct' = (if F (own_vn uw) = 0 then ct + 1 else ct) := by
  obtain ⟨a1, a2, a3, a4, -⟩ := own_vn_eq hu
  rw [a2, a3] at G
  have e : 64 * (own_vn uw / 64) + own_vn uw % 64 = own_vn uw := by omega
  have r := H.grow (by omega) (by omega) hcap G
  rw [e] at r
  exact r
def own_nz (x : Int32) : Int32 := if x = 0 then 1 else x
theorem own_nz_ne (x : Int32) : own_nz x ≠ 0 := by
  unfold own_nz
  by_cases z : x = 0
  · rw [if_pos z]; decide
  · rw [if_neg z]; exact z
theorem own_msb (x : Int32) : 0 ≤ x.toInt ↔ x.toBitVec.msb = false := by
  rw [BitVec.msb_eq_toInt]
  show _ ↔ decide (x.toInt < 0) = false
  rw [decide_eq_false_iff_not]; omega
theorem own_or_nn {a b : Int32} (ha : 0 ≤ a.toInt) (hb : 0 ≤ b.toInt) : 0 ≤ (a ||| b).toInt := by
  rw [own_msb] at *
  rw [Int32.toBitVec_or, BitVec.msb_or, ha, hb]; rfl
theorem own_and_nn {a b : Int32} (ha : 0 ≤ a.toInt) : 0 ≤ (a &&& b).toInt := by
  rw [own_msb] at *
  rw [Int32.toBitVec_and, BitVec.msb_and, ha]; rfl
theorem own_rem3 (x : Int32) : (x &&& 3) % 3 = 0 ∨ (x &&& 3) % 3 = 1 ∨ (x &&& 3) % 3 = 2 := by
  have h := c_mask x 3 2 (by decide) (by decide)
  have e : ((2 ^ 2 : Nat) : Int) = 4 := rfl
  rw [e] at h
  obtain ⟨y, hy⟩ : ∃ y, y = x &&& 3 := ⟨_, rfl⟩
  rw [← hy] at h ⊢
  have t : y.toInt = 0 ∨ y.toInt = 1 ∨ y.toInt = 2 ∨ y.toInt = 3 := by omega
  have q : ∀ z : Int32, y.toInt = z.toInt → y = z := fun z hz => Int32.toInt_inj.mp hz
  rcases t with t | t | t | t
  · rw [q 0 t]; decide
  · rw [q 1 t]; decide
  · rw [q 2 t]; decide
  · rw [q 3 t]; decide

theorem own_ef15_II (m : MethodId) (x0 : Int32) (x1 : Int32) : entryFrame m #[.int x0, .int x1] 2 = mkF m 0 #[iv x0, iv x1] [] := by first | (simp [entryFrame, mkF, argsToLocals, Value.category]; done) | rfl
theorem d15_0 : decode jdk_29_method_69_code 0 = .ok (.iload_n 0, 1) := by decide +kernel
theorem d15_1 : decode jdk_29_method_69_code 1 = .ok (.iload_n 1, 1) := by decide +kernel
theorem d15_2 : decode jdk_29_method_69_code 2 = .ok (.if_icmp .gt 7, 3) := by decide +kernel
theorem d15_9 : decode jdk_29_method_69_code 9 = .ok (.iload_n 1, 1) := by decide +kernel
theorem d15_10 : decode jdk_29_method_69_code 10 = .ok (.ireturn, 1) := by decide +kernel
theorem d15_5 : decode jdk_29_method_69_code 5 = .ok (.iload_n 0, 1) := by decide +kernel
theorem d15_6 : decode jdk_29_method_69_code 6 = .ok (.goto 4, 3) := by decide +kernel
theorem own_pn0 : plainName "java/util/Arrays" = true := by first | (simp [plainName, overriddenIn]; done) | decide +kernel
theorem own_ef14_RI (m : MethodId) (x0 : Addr) (x1 : Int32) : entryFrame m #[.ref x0, .int x1] 3 = mkF m 0 #[rv x0, iv x1, .unset] [] := by first | (simp [entryFrame, mkF, argsToLocals, Value.category]; done) | rfl
theorem d14_0 : decode jdk_65_method_123_code 0 = .ok (.iload_n 1, 1) := by decide +kernel
theorem d14_1 : decode jdk_65_method_123_code 1 = .ok (.aload_n 0, 1) := by decide +kernel
theorem d14_2 : decode jdk_65_method_123_code 2 = .ok (.arraylength, 1) := by decide +kernel
theorem d14_3 : decode jdk_65_method_123_code 3 = .ok (.if_icmp .ne 11, 3) := by decide +kernel
theorem d14_14 : decode jdk_65_method_123_code 14 = .ok (.iload_n 1, 1) := by decide +kernel
theorem d14_15 : decode jdk_65_method_123_code 15 = .ok (.newarray .int, 2) := by decide +kernel
theorem d14_17 : decode jdk_65_method_123_code 17 = .ok (.astore_n 2, 1) := by decide +kernel
theorem d14_18 : decode jdk_65_method_123_code 18 = .ok (.aload_n 0, 1) := by decide +kernel
theorem d14_19 : decode jdk_65_method_123_code 19 = .ok (.iconst 0, 1) := by decide +kernel
theorem d14_20 : decode jdk_65_method_123_code 20 = .ok (.aload_n 2, 1) := by decide +kernel
theorem d14_21 : decode jdk_65_method_123_code 21 = .ok (.iconst 0, 1) := by decide +kernel
theorem d14_22 : decode jdk_65_method_123_code 22 = .ok (.aload_n 0, 1) := by decide +kernel
theorem d14_23 : decode jdk_65_method_123_code 23 = .ok (.arraylength, 1) := by decide +kernel
theorem d14_24 : decode jdk_65_method_123_code 24 = .ok (.iload_n 1, 1) := by decide +kernel
theorem d14_25 : decode jdk_65_method_123_code 25 = .ok (.invokestatic 304, 3) := by decide +kernel
theorem own_pd0 : parseMethodDescriptor "(II)I" = some ⟨[.int, .int], some .int⟩ := by decide +kernel
theorem d14_28 : decode jdk_65_method_123_code 28 = .ok (.invokestatic 150, 3) := by decide +kernel
theorem d14_31 : decode jdk_65_method_123_code 31 = .ok (.aload_n 2, 1) := by decide +kernel
theorem d14_32 : decode jdk_65_method_123_code 32 = .ok (.areturn, 1) := by decide +kernel
theorem own_ef16_RI (m : MethodId) (x0 : Addr) (x1 : Int32) : entryFrame m #[.ref x0, .int x1] 3 = mkF m 0 #[rv x0, iv x1, .unset] [] := by first | (simp [entryFrame, mkF, argsToLocals, Value.category]; done) | rfl
theorem d16_0 : decode jdk_65_method_124_code 0 = .ok (.iload_n 1, 1) := by decide +kernel
theorem d16_1 : decode jdk_65_method_124_code 1 = .ok (.aload_n 0, 1) := by decide +kernel
theorem d16_2 : decode jdk_65_method_124_code 2 = .ok (.arraylength, 1) := by decide +kernel
theorem d16_3 : decode jdk_65_method_124_code 3 = .ok (.if_icmp .ne 11, 3) := by decide +kernel
theorem d16_14 : decode jdk_65_method_124_code 14 = .ok (.iload_n 1, 1) := by decide +kernel
theorem d16_15 : decode jdk_65_method_124_code 15 = .ok (.newarray .long, 2) := by decide +kernel
theorem d16_17 : decode jdk_65_method_124_code 17 = .ok (.astore_n 2, 1) := by decide +kernel
theorem d16_18 : decode jdk_65_method_124_code 18 = .ok (.aload_n 0, 1) := by decide +kernel
theorem d16_19 : decode jdk_65_method_124_code 19 = .ok (.iconst 0, 1) := by decide +kernel
theorem d16_20 : decode jdk_65_method_124_code 20 = .ok (.aload_n 2, 1) := by decide +kernel
theorem d16_21 : decode jdk_65_method_124_code 21 = .ok (.iconst 0, 1) := by decide +kernel
theorem d16_22 : decode jdk_65_method_124_code 22 = .ok (.aload_n 0, 1) := by decide +kernel
theorem d16_23 : decode jdk_65_method_124_code 23 = .ok (.arraylength, 1) := by decide +kernel
theorem d16_24 : decode jdk_65_method_124_code 24 = .ok (.iload_n 1, 1) := by decide +kernel
theorem d16_25 : decode jdk_65_method_124_code 25 = .ok (.invokestatic 304, 3) := by decide +kernel
theorem d16_28 : decode jdk_65_method_124_code 28 = .ok (.invokestatic 150, 3) := by decide +kernel
theorem d16_31 : decode jdk_65_method_124_code 31 = .ok (.aload_n 2, 1) := by decide +kernel
theorem d16_32 : decode jdk_65_method_124_code 32 = .ok (.areturn, 1) := by decide +kernel
theorem d5_89 : decode prog_38_method_3_code 89 = .ok (.iload 9, 2) := by decide +kernel
theorem d5_91 : decode prog_38_method_3_code 91 = .ok (.aload_n 0, 1) := by decide +kernel
theorem d5_92 : decode prog_38_method_3_code 92 = .ok (.getfield 31, 3) := by decide +kernel
theorem d5_95 : decode prog_38_method_3_code 95 = .ok (.arraylength, 1) := by decide +kernel
theorem d5_96 : decode prog_38_method_3_code 96 = .ok (.if_icmp .ge 53, 3) := by decide +kernel
theorem d5_99 : decode prog_38_method_3_code 99 = .ok (.aload_n 0, 1) := by decide +kernel
theorem d5_100 : decode prog_38_method_3_code 100 = .ok (.getfield 31, 3) := by decide +kernel
theorem d5_103 : decode prog_38_method_3_code 103 = .ok (.iload 9, 2) := by decide +kernel
theorem d5_105 : decode prog_38_method_3_code 105 = .ok (.aaload, 1) := by decide +kernel
theorem d5_106 : decode prog_38_method_3_code 106 = .ok (.iload 5, 2) := by decide +kernel
theorem d5_108 : decode prog_38_method_3_code 108 = .ok (.laload, 1) := by decide +kernel
theorem d5_109 : decode prog_38_method_3_code 109 = .ok (.lload 7, 2) := by decide +kernel
theorem d5_111 : decode prog_38_method_3_code 111 = .ok (.land, 1) := by decide +kernel
theorem d5_112 : decode prog_38_method_3_code 112 = .ok (.lconst 0, 1) := by decide +kernel
theorem d5_113 : decode prog_38_method_3_code 113 = .ok (.lcmp, 1) := by decide +kernel
theorem d5_114 : decode prog_38_method_3_code 114 = .ok (.ifCond .ne 29, 3) := by decide +kernel
theorem d5_117 : decode prog_38_method_3_code 117 = .ok (.aload_n 0, 1) := by decide +kernel
theorem d5_118 : decode prog_38_method_3_code 118 = .ok (.getfield 31, 3) := by decide +kernel
theorem d5_121 : decode prog_38_method_3_code 121 = .ok (.iload 9, 2) := by decide +kernel
theorem d5_123 : decode prog_38_method_3_code 123 = .ok (.aaload, 1) := by decide +kernel
theorem d5_124 : decode prog_38_method_3_code 124 = .ok (.iload 5, 2) := by decide +kernel
theorem d5_126 : decode prog_38_method_3_code 126 = .ok (.dup2, 1) := by decide +kernel
theorem d5_127 : decode prog_38_method_3_code 127 = .ok (.laload, 1) := by decide +kernel
theorem d5_128 : decode prog_38_method_3_code 128 = .ok (.lload 7, 2) := by decide +kernel
theorem d5_130 : decode prog_38_method_3_code 130 = .ok (.lor, 1) := by decide +kernel
theorem d5_131 : decode prog_38_method_3_code 131 = .ok (.lastore, 1) := by decide +kernel
theorem d5_132 : decode prog_38_method_3_code 132 = .ok (.aload_n 0, 1) := by decide +kernel
theorem d5_133 : decode prog_38_method_3_code 133 = .ok (.getfield 35, 3) := by decide +kernel
theorem d5_136 : decode prog_38_method_3_code 136 = .ok (.iload 9, 2) := by decide +kernel
theorem d5_138 : decode prog_38_method_3_code 138 = .ok (.dup2, 1) := by decide +kernel
theorem d5_139 : decode prog_38_method_3_code 139 = .ok (.iaload, 1) := by decide +kernel
theorem d5_140 : decode prog_38_method_3_code 140 = .ok (.iconst 1, 1) := by decide +kernel
theorem d5_141 : decode prog_38_method_3_code 141 = .ok (.iadd, 1) := by decide +kernel
theorem d5_142 : decode prog_38_method_3_code 142 = .ok (.iastore, 1) := by decide +kernel
theorem d5_143 : decode prog_38_method_3_code 143 = .ok (.iinc 9 1, 3) := by decide +kernel
theorem d5_146 : decode prog_38_method_3_code 146 = .ok (.goto (-57), 3) := by decide +kernel
theorem d10_61 : decode prog_38_method_10_code 61 = .ok (.iload 4, 2) := by decide +kernel
theorem d10_63 : decode prog_38_method_10_code 63 = .ok (.aload_n 0, 1) := by decide +kernel
theorem d10_64 : decode prog_38_method_10_code 64 = .ok (.getfield 31, 3) := by decide +kernel
theorem d10_67 : decode prog_38_method_10_code 67 = .ok (.arraylength, 1) := by decide +kernel
theorem d10_68 : decode prog_38_method_10_code 68 = .ok (.if_icmp .ge 27, 3) := by decide +kernel
theorem d10_71 : decode prog_38_method_10_code 71 = .ok (.aload_n 0, 1) := by decide +kernel
theorem d10_72 : decode prog_38_method_10_code 72 = .ok (.getfield 31, 3) := by decide +kernel
theorem d10_75 : decode prog_38_method_10_code 75 = .ok (.iload 4, 2) := by decide +kernel
theorem d10_77 : decode prog_38_method_10_code 77 = .ok (.aload_n 0, 1) := by decide +kernel
theorem d10_78 : decode prog_38_method_10_code 78 = .ok (.getfield 31, 3) := by decide +kernel
theorem d10_81 : decode prog_38_method_10_code 81 = .ok (.iload 4, 2) := by decide +kernel
theorem d10_83 : decode prog_38_method_10_code 83 = .ok (.aaload, 1) := by decide +kernel
theorem d10_84 : decode prog_38_method_10_code 84 = .ok (.iload_n 3, 1) := by decide +kernel
theorem d10_85 : decode prog_38_method_10_code 85 = .ok (.invokestatic 74, 3) := by decide +kernel
theorem own_pd1 : parseMethodDescriptor "([JI)[J" = some ⟨[(.array .long), .int], some (.array .long)⟩ := by decide +kernel
theorem d10_88 : decode prog_38_method_10_code 88 = .ok (.aastore, 1) := by decide +kernel
theorem d10_89 : decode prog_38_method_10_code 89 = .ok (.iinc 4 1, 3) := by decide +kernel
theorem d10_92 : decode prog_38_method_10_code 92 = .ok (.goto (-31), 3) := by decide +kernel
theorem own_pn1 : plainName "com/example/saturation/saturation/OpenNode" = true := by first | (simp [plainName, overriddenIn]; done) | decide +kernel
theorem own_ef10_RII (m : MethodId) (x0 : Addr) (x1 : Int32) (x2 : Int32) : entryFrame m #[.ref x0, .int x1, .int x2] 5 = mkF m 0 #[rv x0, iv x1, iv x2, .unset, .unset] [] := by first | (simp [entryFrame, mkF, argsToLocals, Value.category]; done) | rfl
theorem d10_0 : decode prog_38_method_10_code 0 = .ok (.aload_n 0, 1) := by decide +kernel
theorem d10_1 : decode prog_38_method_10_code 1 = .ok (.getfield 23, 3) := by decide +kernel
theorem d10_4 : decode prog_38_method_10_code 4 = .ok (.aload_n 0, 1) := by decide +kernel
theorem d10_5 : decode prog_38_method_10_code 5 = .ok (.getfield 13, 3) := by decide +kernel
theorem d10_8 : decode prog_38_method_10_code 8 = .ok (.arraylength, 1) := by decide +kernel
theorem d10_9 : decode prog_38_method_10_code 9 = .ok (.if_icmp .ne 86, 3) := by decide +kernel
theorem d10_12 : decode prog_38_method_10_code 12 = .ok (.iconst 2, 1) := by decide +kernel
theorem d10_13 : decode prog_38_method_10_code 13 = .ok (.aload_n 0, 1) := by decide +kernel
theorem d10_14 : decode prog_38_method_10_code 14 = .ok (.getfield 23, 3) := by decide +kernel
theorem d10_17 : decode prog_38_method_10_code 17 = .ok (.imul, 1) := by decide +kernel
theorem d10_18 : decode prog_38_method_10_code 18 = .ok (.istore_n 3, 1) := by decide +kernel
theorem d10_19 : decode prog_38_method_10_code 19 = .ok (.aload_n 0, 1) := by decide +kernel
theorem d10_20 : decode prog_38_method_10_code 20 = .ok (.aload_n 0, 1) := by decide +kernel
theorem d10_21 : decode prog_38_method_10_code 21 = .ok (.getfield 13, 3) := by decide +kernel
theorem d10_24 : decode prog_38_method_10_code 24 = .ok (.iload_n 3, 1) := by decide +kernel
theorem d10_25 : decode prog_38_method_10_code 25 = .ok (.invokestatic 70, 3) := by decide +kernel
theorem own_pd2 : parseMethodDescriptor "([II)[I" = some ⟨[(.array .int), .int], some (.array .int)⟩ := by decide +kernel
theorem d10_28 : decode prog_38_method_10_code 28 = .ok (.putfield 13, 3) := by decide +kernel
theorem d10_31 : decode prog_38_method_10_code 31 = .ok (.aload_n 0, 1) := by decide +kernel
theorem d10_32 : decode prog_38_method_10_code 32 = .ok (.aload_n 0, 1) := by decide +kernel
theorem d10_33 : decode prog_38_method_10_code 33 = .ok (.getfield 17, 3) := by decide +kernel
theorem d10_36 : decode prog_38_method_10_code 36 = .ok (.iload_n 3, 1) := by decide +kernel
theorem d10_37 : decode prog_38_method_10_code 37 = .ok (.invokestatic 70, 3) := by decide +kernel
theorem d10_40 : decode prog_38_method_10_code 40 = .ok (.putfield 17, 3) := by decide +kernel
theorem d10_43 : decode prog_38_method_10_code 43 = .ok (.aload_n 0, 1) := by decide +kernel
theorem d10_44 : decode prog_38_method_10_code 44 = .ok (.aload_n 0, 1) := by decide +kernel
theorem d10_45 : decode prog_38_method_10_code 45 = .ok (.getfield 20, 3) := by decide +kernel
theorem d10_48 : decode prog_38_method_10_code 48 = .ok (.iload_n 3, 1) := by decide +kernel
theorem d10_49 : decode prog_38_method_10_code 49 = .ok (.bipush 6, 2) := by decide +kernel
theorem d10_51 : decode prog_38_method_10_code 51 = .ok (.ishl, 1) := by decide +kernel
theorem d10_52 : decode prog_38_method_10_code 52 = .ok (.invokestatic 70, 3) := by decide +kernel
theorem d10_55 : decode prog_38_method_10_code 55 = .ok (.putfield 20, 3) := by decide +kernel
theorem d10_58 : decode prog_38_method_10_code 58 = .ok (.iconst 0, 1) := by decide +kernel
theorem d10_59 : decode prog_38_method_10_code 59 = .ok (.istore 4, 2) := by decide +kernel
theorem d10_95 : decode prog_38_method_10_code 95 = .ok (.aload_n 0, 1) := by decide +kernel
theorem d10_96 : decode prog_38_method_10_code 96 = .ok (.getfield 13, 3) := by decide +kernel
theorem d10_99 : decode prog_38_method_10_code 99 = .ok (.iload_n 2, 1) := by decide +kernel
theorem d10_100 : decode prog_38_method_10_code 100 = .ok (.aload_n 0, 1) := by decide +kernel
theorem d10_101 : decode prog_38_method_10_code 101 = .ok (.getfield 13, 3) := by decide +kernel
theorem d10_104 : decode prog_38_method_10_code 104 = .ok (.iload_n 2, 1) := by decide +kernel
theorem d10_105 : decode prog_38_method_10_code 105 = .ok (.iconst 1, 1) := by decide +kernel
theorem d10_106 : decode prog_38_method_10_code 106 = .ok (.iadd, 1) := by decide +kernel
theorem d10_107 : decode prog_38_method_10_code 107 = .ok (.aload_n 0, 1) := by decide +kernel
theorem d10_108 : decode prog_38_method_10_code 108 = .ok (.getfield 23, 3) := by decide +kernel
theorem d10_111 : decode prog_38_method_10_code 111 = .ok (.iload_n 2, 1) := by decide +kernel
theorem d10_112 : decode prog_38_method_10_code 112 = .ok (.isub, 1) := by decide +kernel
theorem d10_113 : decode prog_38_method_10_code 113 = .ok (.invokestatic 77, 3) := by decide +kernel
theorem d10_116 : decode prog_38_method_10_code 116 = .ok (.aload_n 0, 1) := by decide +kernel
theorem d10_117 : decode prog_38_method_10_code 117 = .ok (.getfield 17, 3) := by decide +kernel
theorem d10_120 : decode prog_38_method_10_code 120 = .ok (.iload_n 2, 1) := by decide +kernel
theorem d10_121 : decode prog_38_method_10_code 121 = .ok (.aload_n 0, 1) := by decide +kernel
theorem d10_122 : decode prog_38_method_10_code 122 = .ok (.getfield 17, 3) := by decide +kernel
theorem d10_125 : decode prog_38_method_10_code 125 = .ok (.iload_n 2, 1) := by decide +kernel
theorem d10_126 : decode prog_38_method_10_code 126 = .ok (.iconst 1, 1) := by decide +kernel
theorem d10_127 : decode prog_38_method_10_code 127 = .ok (.iadd, 1) := by decide +kernel
theorem d10_128 : decode prog_38_method_10_code 128 = .ok (.aload_n 0, 1) := by decide +kernel
theorem d10_129 : decode prog_38_method_10_code 129 = .ok (.getfield 23, 3) := by decide +kernel
theorem d10_132 : decode prog_38_method_10_code 132 = .ok (.iload_n 2, 1) := by decide +kernel
theorem d10_133 : decode prog_38_method_10_code 133 = .ok (.isub, 1) := by decide +kernel
theorem d10_134 : decode prog_38_method_10_code 134 = .ok (.invokestatic 77, 3) := by decide +kernel
theorem d10_137 : decode prog_38_method_10_code 137 = .ok (.aload_n 0, 1) := by decide +kernel
theorem d10_138 : decode prog_38_method_10_code 138 = .ok (.getfield 13, 3) := by decide +kernel
theorem d10_141 : decode prog_38_method_10_code 141 = .ok (.iload_n 2, 1) := by decide +kernel
theorem d10_142 : decode prog_38_method_10_code 142 = .ok (.iload_n 1, 1) := by decide +kernel
theorem d10_143 : decode prog_38_method_10_code 143 = .ok (.iastore, 1) := by decide +kernel
theorem d10_144 : decode prog_38_method_10_code 144 = .ok (.aload_n 0, 1) := by decide +kernel
theorem d10_145 : decode prog_38_method_10_code 145 = .ok (.getfield 17, 3) := by decide +kernel
theorem d10_148 : decode prog_38_method_10_code 148 = .ok (.iload_n 2, 1) := by decide +kernel
theorem d10_149 : decode prog_38_method_10_code 149 = .ok (.aload_n 0, 1) := by decide +kernel
theorem d10_150 : decode prog_38_method_10_code 150 = .ok (.getfield 23, 3) := by decide +kernel
theorem d10_153 : decode prog_38_method_10_code 153 = .ok (.iastore, 1) := by decide +kernel
theorem d10_154 : decode prog_38_method_10_code 154 = .ok (.aload_n 0, 1) := by decide +kernel
theorem d10_155 : decode prog_38_method_10_code 155 = .ok (.dup, 1) := by decide +kernel
theorem d10_156 : decode prog_38_method_10_code 156 = .ok (.getfield 23, 3) := by decide +kernel
theorem d10_159 : decode prog_38_method_10_code 159 = .ok (.iconst 1, 1) := by decide +kernel
theorem d10_160 : decode prog_38_method_10_code 160 = .ok (.iadd, 1) := by decide +kernel
theorem d10_161 : decode prog_38_method_10_code 161 = .ok (.putfield 23, 3) := by decide +kernel
theorem d10_164 : decode prog_38_method_10_code 164 = .ok (.aload_n 0, 1) := by decide +kernel
theorem d10_165 : decode prog_38_method_10_code 165 = .ok (.iload_n 1, 1) := by decide +kernel
theorem d10_166 : decode prog_38_method_10_code 166 = .ok (.putfield 9, 3) := by decide +kernel
theorem d10_169 : decode prog_38_method_10_code 169 = .ok (.aload_n 0, 1) := by decide +kernel
theorem d10_170 : decode prog_38_method_10_code 170 = .ok (.iload_n 2, 1) := by decide +kernel
theorem d10_171 : decode prog_38_method_10_code 171 = .ok (.putfield 61, 3) := by decide +kernel
theorem d10_174 : decode prog_38_method_10_code 174 = .ok (.iload_n 2, 1) := by decide +kernel
theorem d10_175 : decode prog_38_method_10_code 175 = .ok (.ireturn, 1) := by decide +kernel
theorem own_ef9_RIII (m : MethodId) (x0 : Addr) (x1 : Int32) (x2 : Int32) (x3 : Int32) : entryFrame m #[.ref x0, .int x1, .int x2, .int x3] 8 = mkF m 0 #[rv x0, iv x1, iv x2, iv x3, .unset, .unset, .unset, .unset] [] := by first | (simp [entryFrame, mkF, argsToLocals, Value.category]; done) | rfl
theorem d9_0 : decode jdk_65_method_59_code 0 = .ok (.iload_n 1, 1) := by decide +kernel
theorem d9_1 : decode jdk_65_method_59_code 1 = .ok (.istore 4, 2) := by decide +kernel
theorem d9_3 : decode jdk_65_method_59_code 3 = .ok (.iload_n 2, 1) := by decide +kernel
theorem d9_4 : decode jdk_65_method_59_code 4 = .ok (.iconst 1, 1) := by decide +kernel
theorem d9_5 : decode jdk_65_method_59_code 5 = .ok (.isub, 1) := by decide +kernel
theorem d9_6 : decode jdk_65_method_59_code 6 = .ok (.istore 5, 2) := by decide +kernel
theorem d9_8 : decode jdk_65_method_59_code 8 = .ok (.iload 4, 2) := by decide +kernel
theorem d9_10 : decode jdk_65_method_59_code 10 = .ok (.iload 5, 2) := by decide +kernel
theorem d9_12 : decode jdk_65_method_59_code 12 = .ok (.if_icmp .gt 54, 3) := by decide +kernel
theorem d9_66 : decode jdk_65_method_59_code 66 = .ok (.iload 4, 2) := by decide +kernel
theorem d9_68 : decode jdk_65_method_59_code 68 = .ok (.iconst 1, 1) := by decide +kernel
theorem d9_69 : decode jdk_65_method_59_code 69 = .ok (.iadd, 1) := by decide +kernel
theorem d9_70 : decode jdk_65_method_59_code 70 = .ok (.ineg, 1) := by decide +kernel
theorem d9_71 : decode jdk_65_method_59_code 71 = .ok (.ireturn, 1) := by decide +kernel
theorem own_ef8_III (m : MethodId) (x0 : Int32) (x1 : Int32) (x2 : Int32) : entryFrame m #[.int x0, .int x1, .int x2] 3 = mkF m 0 #[iv x0, iv x1, iv x2] [] := by first | (simp [entryFrame, mkF, argsToLocals, Value.category]; done) | rfl
theorem d8_0 : decode jdk_65_method_30_code 0 = .ok (.iload_n 1, 1) := by decide +kernel
theorem d8_1 : decode jdk_65_method_30_code 1 = .ok (.iload_n 2, 1) := by decide +kernel
theorem d8_2 : decode jdk_65_method_30_code 2 = .ok (.if_icmp .le 44, 3) := by decide +kernel
theorem d8_46 : decode jdk_65_method_30_code 46 = .ok (.iload_n 1, 1) := by decide +kernel
theorem d8_47 : decode jdk_65_method_30_code 47 = .ok (.ifCond .ge 12, 3) := by decide +kernel
theorem d8_59 : decode jdk_65_method_30_code 59 = .ok (.iload_n 2, 1) := by decide +kernel
theorem d8_60 : decode jdk_65_method_30_code 60 = .ok (.iload_n 0, 1) := by decide +kernel
theorem d8_61 : decode jdk_65_method_30_code 61 = .ok (.if_icmp .le 12, 3) := by decide +kernel
theorem d8_73 : decode jdk_65_method_30_code 73 = .ok (.return_, 1) := by decide +kernel
theorem own_ef7_RIII (m : MethodId) (x0 : Addr) (x1 : Int32) (x2 : Int32) (x3 : Int32) : entryFrame m #[.ref x0, .int x1, .int x2, .int x3] 4 = mkF m 0 #[rv x0, iv x1, iv x2, iv x3] [] := by first | (simp [entryFrame, mkF, argsToLocals, Value.category]; done) | rfl
theorem d7_0 : decode jdk_65_method_58_code 0 = .ok (.aload_n 0, 1) := by decide +kernel
theorem d7_1 : decode jdk_65_method_58_code 1 = .ok (.arraylength, 1) := by decide +kernel
theorem d7_2 : decode jdk_65_method_58_code 2 = .ok (.iload_n 1, 1) := by decide +kernel
theorem d7_3 : decode jdk_65_method_58_code 3 = .ok (.iload_n 2, 1) := by decide +kernel
theorem d7_4 : decode jdk_65_method_58_code 4 = .ok (.invokestatic 13, 3) := by decide +kernel
theorem own_pd3 : parseMethodDescriptor "(III)V" = some ⟨[.int, .int, .int], none⟩ := by decide +kernel
theorem d7_7 : decode jdk_65_method_58_code 7 = .ok (.aload_n 0, 1) := by decide +kernel
theorem d7_8 : decode jdk_65_method_58_code 8 = .ok (.iload_n 1, 1) := by decide +kernel
theorem d7_9 : decode jdk_65_method_58_code 9 = .ok (.iload_n 2, 1) := by decide +kernel
theorem d7_10 : decode jdk_65_method_58_code 10 = .ok (.iload_n 3, 1) := by decide +kernel
theorem d7_11 : decode jdk_65_method_58_code 11 = .ok (.invokestatic 209, 3) := by decide +kernel
theorem own_pd4 : parseMethodDescriptor "([IIII)I" = some ⟨[(.array .int), .int, .int, .int], some .int⟩ := by decide +kernel
theorem d7_14 : decode jdk_65_method_58_code 14 = .ok (.ireturn, 1) := by decide +kernel
theorem d9_15 : decode jdk_65_method_59_code 15 = .ok (.iload 4, 2) := by decide +kernel
theorem d9_17 : decode jdk_65_method_59_code 17 = .ok (.iload 5, 2) := by decide +kernel
theorem d9_19 : decode jdk_65_method_59_code 19 = .ok (.iadd, 1) := by decide +kernel
theorem d9_20 : decode jdk_65_method_59_code 20 = .ok (.iconst 1, 1) := by decide +kernel
theorem d9_21 : decode jdk_65_method_59_code 21 = .ok (.iushr, 1) := by decide +kernel
theorem d9_22 : decode jdk_65_method_59_code 22 = .ok (.istore 6, 2) := by decide +kernel
theorem d9_24 : decode jdk_65_method_59_code 24 = .ok (.aload_n 0, 1) := by decide +kernel
theorem d9_25 : decode jdk_65_method_59_code 25 = .ok (.iload 6, 2) := by decide +kernel
theorem d9_27 : decode jdk_65_method_59_code 27 = .ok (.iaload, 1) := by decide +kernel
theorem d9_28 : decode jdk_65_method_59_code 28 = .ok (.istore 7, 2) := by decide +kernel
theorem d9_30 : decode jdk_65_method_59_code 30 = .ok (.iload 7, 2) := by decide +kernel
theorem d9_32 : decode jdk_65_method_59_code 32 = .ok (.iload_n 3, 1) := by decide +kernel
theorem d9_33 : decode jdk_65_method_59_code 33 = .ok (.if_icmp .ge 12, 3) := by decide +kernel
theorem d9_36 : decode jdk_65_method_59_code 36 = .ok (.iload 6, 2) := by decide +kernel
theorem d9_38 : decode jdk_65_method_59_code 38 = .ok (.iconst 1, 1) := by decide +kernel
theorem d9_39 : decode jdk_65_method_59_code 39 = .ok (.iadd, 1) := by decide +kernel
theorem d9_40 : decode jdk_65_method_59_code 40 = .ok (.istore 4, 2) := by decide +kernel
theorem d9_42 : decode jdk_65_method_59_code 42 = .ok (.goto 21, 3) := by decide +kernel
theorem d9_63 : decode jdk_65_method_59_code 63 = .ok (.goto (-55), 3) := by decide +kernel
theorem d9_45 : decode jdk_65_method_59_code 45 = .ok (.iload 7, 2) := by decide +kernel
theorem d9_47 : decode jdk_65_method_59_code 47 = .ok (.iload_n 3, 1) := by decide +kernel
theorem d9_48 : decode jdk_65_method_59_code 48 = .ok (.if_icmp .le 12, 3) := by decide +kernel
theorem d9_51 : decode jdk_65_method_59_code 51 = .ok (.iload 6, 2) := by decide +kernel
theorem d9_53 : decode jdk_65_method_59_code 53 = .ok (.iconst 1, 1) := by decide +kernel
theorem d9_54 : decode jdk_65_method_59_code 54 = .ok (.isub, 1) := by decide +kernel
theorem d9_55 : decode jdk_65_method_59_code 55 = .ok (.istore 5, 2) := by decide +kernel
theorem d9_57 : decode jdk_65_method_59_code 57 = .ok (.goto 6, 3) := by decide +kernel
theorem d9_60 : decode jdk_65_method_59_code 60 = .ok (.iload 6, 2) := by decide +kernel
theorem d9_62 : decode jdk_65_method_59_code 62 = .ok (.ireturn, 1) := by decide +kernel
theorem own_ef6_RI (m : MethodId) (x0 : Addr) (x1 : Int32) : entryFrame m #[.ref x0, .int x1] 3 = mkF m 0 #[rv x0, iv x1, .unset] [] := by first | (simp [entryFrame, mkF, argsToLocals, Value.category]; done) | rfl
theorem d6_0 : decode prog_38_method_9_code 0 = .ok (.iload_n 1, 1) := by decide +kernel
theorem d6_1 : decode prog_38_method_9_code 1 = .ok (.aload_n 0, 1) := by decide +kernel
theorem d6_2 : decode prog_38_method_9_code 2 = .ok (.getfield 9, 3) := by decide +kernel
theorem d6_5 : decode prog_38_method_9_code 5 = .ok (.if_icmp .ne 11, 3) := by decide +kernel
theorem d6_16 : decode prog_38_method_9_code 16 = .ok (.aload_n 0, 1) := by decide +kernel
theorem d6_17 : decode prog_38_method_9_code 17 = .ok (.getfield 13, 3) := by decide +kernel
theorem d6_20 : decode prog_38_method_9_code 20 = .ok (.iconst 0, 1) := by decide +kernel
theorem d6_21 : decode prog_38_method_9_code 21 = .ok (.aload_n 0, 1) := by decide +kernel
theorem d6_22 : decode prog_38_method_9_code 22 = .ok (.getfield 23, 3) := by decide +kernel
theorem d6_25 : decode prog_38_method_9_code 25 = .ok (.iload_n 1, 1) := by decide +kernel
theorem d6_26 : decode prog_38_method_9_code 26 = .ok (.invokestatic 64, 3) := by decide +kernel
theorem d6_29 : decode prog_38_method_9_code 29 = .ok (.istore_n 2, 1) := by decide +kernel
theorem d6_30 : decode prog_38_method_9_code 30 = .ok (.iload_n 2, 1) := by decide +kernel
theorem d6_31 : decode prog_38_method_9_code 31 = .ok (.ifCond .lt 13, 3) := by decide +kernel
theorem d6_44 : decode prog_38_method_9_code 44 = .ok (.iload_n 2, 1) := by decide +kernel
theorem d6_45 : decode prog_38_method_9_code 45 = .ok (.ireturn, 1) := by decide +kernel
theorem d6_34 : decode prog_38_method_9_code 34 = .ok (.aload_n 0, 1) := by decide +kernel
theorem d6_35 : decode prog_38_method_9_code 35 = .ok (.iload_n 1, 1) := by decide +kernel
theorem d6_36 : decode prog_38_method_9_code 36 = .ok (.putfield 9, 3) := by decide +kernel
theorem d6_39 : decode prog_38_method_9_code 39 = .ok (.aload_n 0, 1) := by decide +kernel
theorem d6_40 : decode prog_38_method_9_code 40 = .ok (.iload_n 2, 1) := by decide +kernel
theorem d6_41 : decode prog_38_method_9_code 41 = .ok (.putfield 61, 3) := by decide +kernel
theorem own_ef5_RII (m : MethodId) (x0 : Addr) (x1 : Int32) (x2 : Int32) : entryFrame m #[.ref x0, .int x1, .int x2] 10 = mkF m 0 #[rv x0, iv x1, iv x2, .unset, .unset, .unset, .unset, .unset, .unset, .unset] [] := by first | (simp [entryFrame, mkF, argsToLocals, Value.category]; done) | rfl
theorem d5_0 : decode prog_38_method_3_code 0 = .ok (.iload_n 1, 1) := by decide +kernel
theorem d5_1 : decode prog_38_method_3_code 1 = .ok (.bipush 6, 2) := by decide +kernel
theorem d5_3 : decode prog_38_method_3_code 3 = .ok (.iushr, 1) := by decide +kernel
theorem d5_4 : decode prog_38_method_3_code 4 = .ok (.istore_n 3, 1) := by decide +kernel
theorem d5_5 : decode prog_38_method_3_code 5 = .ok (.aload_n 0, 1) := by decide +kernel
theorem d5_6 : decode prog_38_method_3_code 6 = .ok (.iload_n 3, 1) := by decide +kernel
theorem d5_7 : decode prog_38_method_3_code 7 = .ok (.invokevirtual 42, 3) := by decide +kernel
theorem own_pd5 : parseMethodDescriptor "(I)I" = some ⟨[.int], some .int⟩ := by decide +kernel
theorem d5_10 : decode prog_38_method_3_code 10 = .ok (.istore 4, 2) := by decide +kernel
theorem d5_12 : decode prog_38_method_3_code 12 = .ok (.iload 4, 2) := by decide +kernel
theorem d5_14 : decode prog_38_method_3_code 14 = .ok (.ifCond .ge 15, 3) := by decide +kernel
theorem d5_29 : decode prog_38_method_3_code 29 = .ok (.aload_n 0, 1) := by decide +kernel
theorem d5_30 : decode prog_38_method_3_code 30 = .ok (.getfield 17, 3) := by decide +kernel
theorem d5_33 : decode prog_38_method_3_code 33 = .ok (.iload 4, 2) := by decide +kernel
theorem d5_35 : decode prog_38_method_3_code 35 = .ok (.iaload, 1) := by decide +kernel
theorem d5_36 : decode prog_38_method_3_code 36 = .ok (.istore 5, 2) := by decide +kernel
theorem d5_38 : decode prog_38_method_3_code 38 = .ok (.iload 5, 2) := by decide +kernel
theorem d5_40 : decode prog_38_method_3_code 40 = .ok (.bipush 6, 2) := by decide +kernel
theorem d5_42 : decode prog_38_method_3_code 42 = .ok (.ishl, 1) := by decide +kernel
theorem d5_43 : decode prog_38_method_3_code 43 = .ok (.iload_n 1, 1) := by decide +kernel
theorem d5_44 : decode prog_38_method_3_code 44 = .ok (.bipush 63, 2) := by decide +kernel
theorem d5_46 : decode prog_38_method_3_code 46 = .ok (.iand, 1) := by decide +kernel
theorem d5_47 : decode prog_38_method_3_code 47 = .ok (.ior, 1) := by decide +kernel
theorem d5_48 : decode prog_38_method_3_code 48 = .ok (.istore 6, 2) := by decide +kernel
theorem d5_50 : decode prog_38_method_3_code 50 = .ok (.aload_n 0, 1) := by decide +kernel
theorem d5_51 : decode prog_38_method_3_code 51 = .ok (.getfield 20, 3) := by decide +kernel
theorem d5_54 : decode prog_38_method_3_code 54 = .ok (.iload 6, 2) := by decide +kernel
theorem d5_56 : decode prog_38_method_3_code 56 = .ok (.iaload, 1) := by decide +kernel
theorem d5_57 : decode prog_38_method_3_code 57 = .ok (.ifCond .ne 13, 3) := by decide +kernel
theorem d5_60 : decode prog_38_method_3_code 60 = .ok (.aload_n 0, 1) := by decide +kernel
theorem d5_61 : decode prog_38_method_3_code 61 = .ok (.dup, 1) := by decide +kernel
theorem d5_62 : decode prog_38_method_3_code 62 = .ok (.getfield 26, 3) := by decide +kernel
theorem d5_65 : decode prog_38_method_3_code 65 = .ok (.iconst 1, 1) := by decide +kernel
theorem d5_66 : decode prog_38_method_3_code 66 = .ok (.iadd, 1) := by decide +kernel
theorem d5_67 : decode prog_38_method_3_code 67 = .ok (.putfield 26, 3) := by decide +kernel
theorem d5_70 : decode prog_38_method_3_code 70 = .ok (.aload_n 0, 1) := by decide +kernel
theorem d5_71 : decode prog_38_method_3_code 71 = .ok (.getfield 20, 3) := by decide +kernel
theorem d5_74 : decode prog_38_method_3_code 74 = .ok (.iload 6, 2) := by decide +kernel
theorem d5_76 : decode prog_38_method_3_code 76 = .ok (.iload_n 2, 1) := by decide +kernel
theorem d5_77 : decode prog_38_method_3_code 77 = .ok (.iastore, 1) := by decide +kernel
theorem d5_78 : decode prog_38_method_3_code 78 = .ok (.lconst 1, 1) := by decide +kernel
theorem d5_79 : decode prog_38_method_3_code 79 = .ok (.iload_n 1, 1) := by decide +kernel
theorem d5_80 : decode prog_38_method_3_code 80 = .ok (.bipush 63, 2) := by decide +kernel
theorem d5_82 : decode prog_38_method_3_code 82 = .ok (.iand, 1) := by decide +kernel
theorem d5_83 : decode prog_38_method_3_code 83 = .ok (.lshl, 1) := by decide +kernel
theorem d5_84 : decode prog_38_method_3_code 84 = .ok (.lstore 7, 2) := by decide +kernel
theorem d5_86 : decode prog_38_method_3_code 86 = .ok (.iconst 0, 1) := by decide +kernel
theorem d5_87 : decode prog_38_method_3_code 87 = .ok (.istore 9, 2) := by decide +kernel
theorem d5_149 : decode prog_38_method_3_code 149 = .ok (.return_, 1) := by decide +kernel
theorem d5_17 : decode prog_38_method_3_code 17 = .ok (.aload_n 0, 1) := by decide +kernel
theorem d5_18 : decode prog_38_method_3_code 18 = .ok (.iload_n 3, 1) := by decide +kernel
theorem d5_19 : decode prog_38_method_3_code 19 = .ok (.iload 4, 2) := by decide +kernel
theorem d5_21 : decode prog_38_method_3_code 21 = .ok (.ineg, 1) := by decide +kernel
theorem d5_22 : decode prog_38_method_3_code 22 = .ok (.iconst 1, 1) := by decide +kernel
theorem d5_23 : decode prog_38_method_3_code 23 = .ok (.isub, 1) := by decide +kernel
theorem d5_24 : decode prog_38_method_3_code 24 = .ok (.invokevirtual 46, 3) := by decide +kernel
theorem d5_27 : decode prog_38_method_3_code 27 = .ok (.istore 4, 2) := by decide +kernel
theorem d11_35 : decode prog_38_method_8_code 35 = .ok (.iload 5, 2) := by decide +kernel
theorem d11_37 : decode prog_38_method_8_code 37 = .ok (.bipush 63, 2) := by decide +kernel
theorem d11_39 : decode prog_38_method_8_code 39 = .ok (.if_icmp .gt 56, 3) := by decide +kernel
theorem d11_42 : decode prog_38_method_8_code 42 = .ok (.aload_n 0, 1) := by decide +kernel
theorem d11_43 : decode prog_38_method_8_code 43 = .ok (.getfield 20, 3) := by decide +kernel
theorem d11_46 : decode prog_38_method_8_code 46 = .ok (.iload 4, 2) := by decide +kernel
theorem d11_48 : decode prog_38_method_8_code 48 = .ok (.iload 5, 2) := by decide +kernel
theorem d11_50 : decode prog_38_method_8_code 50 = .ok (.ior, 1) := by decide +kernel
theorem d11_51 : decode prog_38_method_8_code 51 = .ok (.iaload, 1) := by decide +kernel
theorem d11_52 : decode prog_38_method_8_code 52 = .ok (.ifCond .eq 37, 3) := by decide +kernel
theorem d11_89 : decode prog_38_method_8_code 89 = .ok (.iinc 5 1, 3) := by decide +kernel
theorem d11_92 : decode prog_38_method_8_code 92 = .ok (.goto (-57), 3) := by decide +kernel
theorem d11_55 : decode prog_38_method_8_code 55 = .ok (.aload_n 1, 1) := by decide +kernel
theorem d11_56 : decode prog_38_method_8_code 56 = .ok (.iload_n 2, 1) := by decide +kernel
theorem d11_57 : decode prog_38_method_8_code 57 = .ok (.iinc 2 1, 3) := by decide +kernel
theorem d11_60 : decode prog_38_method_8_code 60 = .ok (.aload_n 0, 1) := by decide +kernel
theorem d11_61 : decode prog_38_method_8_code 61 = .ok (.getfield 13, 3) := by decide +kernel
theorem d11_64 : decode prog_38_method_8_code 64 = .ok (.iload_n 3, 1) := by decide +kernel
theorem d11_65 : decode prog_38_method_8_code 65 = .ok (.iaload, 1) := by decide +kernel
theorem d11_66 : decode prog_38_method_8_code 66 = .ok (.bipush 6, 2) := by decide +kernel
theorem d11_68 : decode prog_38_method_8_code 68 = .ok (.ishl, 1) := by decide +kernel
theorem d11_69 : decode prog_38_method_8_code 69 = .ok (.iload 5, 2) := by decide +kernel
theorem d11_71 : decode prog_38_method_8_code 71 = .ok (.ior, 1) := by decide +kernel
theorem d11_72 : decode prog_38_method_8_code 72 = .ok (.iastore, 1) := by decide +kernel
theorem d11_73 : decode prog_38_method_8_code 73 = .ok (.aload_n 1, 1) := by decide +kernel
theorem d11_74 : decode prog_38_method_8_code 74 = .ok (.iload_n 2, 1) := by decide +kernel
theorem d11_75 : decode prog_38_method_8_code 75 = .ok (.iinc 2 1, 3) := by decide +kernel
theorem d11_78 : decode prog_38_method_8_code 78 = .ok (.aload_n 0, 1) := by decide +kernel
theorem d11_79 : decode prog_38_method_8_code 79 = .ok (.getfield 20, 3) := by decide +kernel
theorem d11_82 : decode prog_38_method_8_code 82 = .ok (.iload 4, 2) := by decide +kernel
theorem d11_84 : decode prog_38_method_8_code 84 = .ok (.iload 5, 2) := by decide +kernel
theorem d11_86 : decode prog_38_method_8_code 86 = .ok (.ior, 1) := by decide +kernel
theorem d11_87 : decode prog_38_method_8_code 87 = .ok (.iaload, 1) := by decide +kernel
theorem d11_88 : decode prog_38_method_8_code 88 = .ok (.iastore, 1) := by decide +kernel
theorem own_ef11_R (m : MethodId) (x0 : Addr) : entryFrame m #[.ref x0] 6 = mkF m 0 #[rv x0, .unset, .unset, .unset, .unset, .unset] [] := by first | (simp [entryFrame, mkF, argsToLocals, Value.category]; done) | rfl
theorem d11_0 : decode prog_38_method_8_code 0 = .ok (.iconst 2, 1) := by decide +kernel
theorem d11_1 : decode prog_38_method_8_code 1 = .ok (.aload_n 0, 1) := by decide +kernel
theorem d11_2 : decode prog_38_method_8_code 2 = .ok (.getfield 26, 3) := by decide +kernel
theorem d11_5 : decode prog_38_method_8_code 5 = .ok (.imul, 1) := by decide +kernel
theorem d11_6 : decode prog_38_method_8_code 6 = .ok (.newarray .int, 2) := by decide +kernel
theorem d11_8 : decode prog_38_method_8_code 8 = .ok (.astore_n 1, 1) := by decide +kernel
theorem d11_9 : decode prog_38_method_8_code 9 = .ok (.iconst 0, 1) := by decide +kernel
theorem d11_10 : decode prog_38_method_8_code 10 = .ok (.istore_n 2, 1) := by decide +kernel
theorem d11_11 : decode prog_38_method_8_code 11 = .ok (.iconst 0, 1) := by decide +kernel
theorem d11_12 : decode prog_38_method_8_code 12 = .ok (.istore_n 3, 1) := by decide +kernel
theorem d11_13 : decode prog_38_method_8_code 13 = .ok (.iload_n 3, 1) := by decide +kernel
theorem d11_14 : decode prog_38_method_8_code 14 = .ok (.aload_n 0, 1) := by decide +kernel
theorem d11_15 : decode prog_38_method_8_code 15 = .ok (.getfield 23, 3) := by decide +kernel
theorem d11_18 : decode prog_38_method_8_code 18 = .ok (.if_icmp .ge 83, 3) := by decide +kernel
theorem d11_101 : decode prog_38_method_8_code 101 = .ok (.aload_n 1, 1) := by decide +kernel
theorem d11_102 : decode prog_38_method_8_code 102 = .ok (.areturn, 1) := by decide +kernel
theorem d11_21 : decode prog_38_method_8_code 21 = .ok (.aload_n 0, 1) := by decide +kernel
theorem d11_22 : decode prog_38_method_8_code 22 = .ok (.getfield 17, 3) := by decide +kernel
theorem d11_25 : decode prog_38_method_8_code 25 = .ok (.iload_n 3, 1) := by decide +kernel
theorem d11_26 : decode prog_38_method_8_code 26 = .ok (.iaload, 1) := by decide +kernel
theorem d11_27 : decode prog_38_method_8_code 27 = .ok (.bipush 6, 2) := by decide +kernel
theorem d11_29 : decode prog_38_method_8_code 29 = .ok (.ishl, 1) := by decide +kernel
theorem d11_30 : decode prog_38_method_8_code 30 = .ok (.istore 4, 2) := by decide +kernel
theorem d11_32 : decode prog_38_method_8_code 32 = .ok (.iconst 0, 1) := by decide +kernel
theorem d11_33 : decode prog_38_method_8_code 33 = .ok (.istore 5, 2) := by decide +kernel
theorem d11_95 : decode prog_38_method_8_code 95 = .ok (.iinc 3 1, 3) := by decide +kernel
theorem d11_98 : decode prog_38_method_8_code 98 = .ok (.goto (-85), 3) := by decide +kernel
theorem d3_235 : decode prog_38_method_1_code 235 = .ok (.iload 5, 2) := by decide +kernel
theorem d3_237 : decode prog_38_method_1_code 237 = .ok (.iload_n 2, 1) := by decide +kernel
theorem d3_238 : decode prog_38_method_1_code 238 = .ok (.if_icmp .ge 35, 3) := by decide +kernel
theorem d3_241 : decode prog_38_method_1_code 241 = .ok (.aload_n 0, 1) := by decide +kernel
theorem d3_242 : decode prog_38_method_1_code 242 = .ok (.getfield 31, 3) := by decide +kernel
theorem d3_245 : decode prog_38_method_1_code 245 = .ok (.iload 5, 2) := by decide +kernel
theorem d3_247 : decode prog_38_method_1_code 247 = .ok (.aload 4, 2) := by decide +kernel
theorem d3_249 : decode prog_38_method_1_code 249 = .ok (.invokevirtual 38, 3) := by decide +kernel
theorem d3_252 : decode prog_38_method_1_code 252 = .ok (.checkcast 29, 3) := by decide +kernel
theorem d3_255 : decode prog_38_method_1_code 255 = .ok (.aastore, 1) := by decide +kernel
theorem d3_256 : decode prog_38_method_1_code 256 = .ok (.aload_n 0, 1) := by decide +kernel
theorem d3_257 : decode prog_38_method_1_code 257 = .ok (.getfield 35, 3) := by decide +kernel
theorem d3_260 : decode prog_38_method_1_code 260 = .ok (.iload 5, 2) := by decide +kernel
theorem d3_262 : decode prog_38_method_1_code 262 = .ok (.aload_n 0, 1) := by decide +kernel
theorem d3_263 : decode prog_38_method_1_code 263 = .ok (.getfield 26, 3) := by decide +kernel
theorem d3_266 : decode prog_38_method_1_code 266 = .ok (.iastore, 1) := by decide +kernel
theorem d3_267 : decode prog_38_method_1_code 267 = .ok (.iinc 5 1, 3) := by decide +kernel
theorem d3_270 : decode prog_38_method_1_code 270 = .ok (.goto (-35), 3) := by decide +kernel
theorem own_ef3_RRI (m : MethodId) (x0 : Addr) (x1 : Addr) (x2 : Int32) : entryFrame m #[.ref x0, .ref x1, .int x2] 7 = mkF m 0 #[rv x0, rv x1, iv x2, .unset, .unset, .unset, .unset] [] := by first | (simp [entryFrame, mkF, argsToLocals, Value.category]; done) | rfl
theorem d3_0 : decode prog_38_method_1_code 0 = .ok (.aload_n 0, 1) := by decide +kernel
theorem d3_1 : decode prog_38_method_1_code 1 = .ok (.invokespecial 3, 3) := by decide +kernel
theorem d3_4 : decode prog_38_method_1_code 4 = .ok (.aload_n 0, 1) := by decide +kernel
theorem d3_5 : decode prog_38_method_1_code 5 = .ok (.iconst (-1), 1) := by decide +kernel
theorem d3_6 : decode prog_38_method_1_code 6 = .ok (.putfield 9, 3) := by decide +kernel
theorem d3_9 : decode prog_38_method_1_code 9 = .ok (.iconst 1, 1) := by decide +kernel
theorem d3_10 : decode prog_38_method_1_code 10 = .ok (.istore_n 3, 1) := by decide +kernel
theorem d3_11 : decode prog_38_method_1_code 11 = .ok (.iconst 2, 1) := by decide +kernel
theorem d3_12 : decode prog_38_method_1_code 12 = .ok (.istore 4, 2) := by decide +kernel
theorem d3_14 : decode prog_38_method_1_code 14 = .ok (.iload 4, 2) := by decide +kernel
theorem d3_16 : decode prog_38_method_1_code 16 = .ok (.aload_n 1, 1) := by decide +kernel
theorem d3_17 : decode prog_38_method_1_code 17 = .ok (.arraylength, 1) := by decide +kernel
theorem d3_18 : decode prog_38_method_1_code 18 = .ok (.if_icmp .ge 31, 3) := by decide +kernel
theorem d3_49 : decode prog_38_method_1_code 49 = .ok (.aload_n 0, 1) := by decide +kernel
theorem d3_50 : decode prog_38_method_1_code 50 = .ok (.iload_n 3, 1) := by decide +kernel
theorem d3_51 : decode prog_38_method_1_code 51 = .ok (.newarray .int, 2) := by decide +kernel
theorem d3_53 : decode prog_38_method_1_code 53 = .ok (.putfield 13, 3) := by decide +kernel
theorem d3_56 : decode prog_38_method_1_code 56 = .ok (.aload_n 0, 1) := by decide +kernel
theorem d3_57 : decode prog_38_method_1_code 57 = .ok (.iload_n 3, 1) := by decide +kernel
theorem d3_58 : decode prog_38_method_1_code 58 = .ok (.newarray .int, 2) := by decide +kernel
theorem d3_60 : decode prog_38_method_1_code 60 = .ok (.putfield 17, 3) := by decide +kernel
theorem d3_63 : decode prog_38_method_1_code 63 = .ok (.aload_n 0, 1) := by decide +kernel
theorem d3_64 : decode prog_38_method_1_code 64 = .ok (.iload_n 3, 1) := by decide +kernel
theorem d3_65 : decode prog_38_method_1_code 65 = .ok (.bipush 6, 2) := by decide +kernel
theorem d3_67 : decode prog_38_method_1_code 67 = .ok (.ishl, 1) := by decide +kernel
theorem d3_68 : decode prog_38_method_1_code 68 = .ok (.newarray .int, 2) := by decide +kernel
theorem d3_70 : decode prog_38_method_1_code 70 = .ok (.putfield 20, 3) := by decide +kernel
theorem d3_73 : decode prog_38_method_1_code 73 = .ok (.iload_n 3, 1) := by decide +kernel
theorem d3_74 : decode prog_38_method_1_code 74 = .ok (.newarray .long, 2) := by decide +kernel
theorem d3_76 : decode prog_38_method_1_code 76 = .ok (.astore 4, 2) := by decide +kernel
theorem d3_78 : decode prog_38_method_1_code 78 = .ok (.iconst 0, 1) := by decide +kernel
theorem d3_79 : decode prog_38_method_1_code 79 = .ok (.istore 5, 2) := by decide +kernel
theorem d3_81 : decode prog_38_method_1_code 81 = .ok (.iload 5, 2) := by decide +kernel
theorem d3_83 : decode prog_38_method_1_code 83 = .ok (.aload_n 1, 1) := by decide +kernel
theorem d3_84 : decode prog_38_method_1_code 84 = .ok (.arraylength, 1) := by decide +kernel
theorem d3_85 : decode prog_38_method_1_code 85 = .ok (.if_icmp .ge 124, 3) := by decide +kernel
theorem d3_209 : decode prog_38_method_1_code 209 = .ok (.aload_n 0, 1) := by decide +kernel
theorem d3_210 : decode prog_38_method_1_code 210 = .ok (.aload_n 1, 1) := by decide +kernel
theorem d3_211 : decode prog_38_method_1_code 211 = .ok (.arraylength, 1) := by decide +kernel
theorem d3_212 : decode prog_38_method_1_code 212 = .ok (.iconst 2, 1) := by decide +kernel
theorem d3_213 : decode prog_38_method_1_code 213 = .ok (.idiv, 1) := by decide +kernel
theorem d3_214 : decode prog_38_method_1_code 214 = .ok (.putfield 26, 3) := by decide +kernel
theorem d3_217 : decode prog_38_method_1_code 217 = .ok (.aload_n 0, 1) := by decide +kernel
theorem d3_218 : decode prog_38_method_1_code 218 = .ok (.iload_n 2, 1) := by decide +kernel
theorem d3_219 : decode prog_38_method_1_code 219 = .ok (.anewarray 29, 3) := by decide +kernel
theorem d3_222 : decode prog_38_method_1_code 222 = .ok (.putfield 31, 3) := by decide +kernel
theorem d3_225 : decode prog_38_method_1_code 225 = .ok (.aload_n 0, 1) := by decide +kernel
theorem d3_226 : decode prog_38_method_1_code 226 = .ok (.iload_n 2, 1) := by decide +kernel
theorem d3_227 : decode prog_38_method_1_code 227 = .ok (.newarray .int, 2) := by decide +kernel
theorem d3_229 : decode prog_38_method_1_code 229 = .ok (.putfield 35, 3) := by decide +kernel
theorem d3_232 : decode prog_38_method_1_code 232 = .ok (.iconst 0, 1) := by decide +kernel
theorem d3_233 : decode prog_38_method_1_code 233 = .ok (.istore 5, 2) := by decide +kernel
theorem d3_273 : decode prog_38_method_1_code 273 = .ok (.return_, 1) := by decide +kernel
theorem d3_88 : decode prog_38_method_1_code 88 = .ok (.aload_n 1, 1) := by decide +kernel
theorem d3_89 : decode prog_38_method_1_code 89 = .ok (.iload 5, 2) := by decide +kernel
theorem d3_91 : decode prog_38_method_1_code 91 = .ok (.iaload, 1) := by decide +kernel
theorem d3_92 : decode prog_38_method_1_code 92 = .ok (.bipush 6, 2) := by decide +kernel
theorem d3_94 : decode prog_38_method_1_code 94 = .ok (.iushr, 1) := by decide +kernel
theorem d3_95 : decode prog_38_method_1_code 95 = .ok (.istore 6, 2) := by decide +kernel
theorem d3_97 : decode prog_38_method_1_code 97 = .ok (.aload_n 0, 1) := by decide +kernel
theorem d3_98 : decode prog_38_method_1_code 98 = .ok (.getfield 23, 3) := by decide +kernel
theorem d3_101 : decode prog_38_method_1_code 101 = .ok (.ifCond .eq 19, 3) := by decide +kernel
theorem d3_120 : decode prog_38_method_1_code 120 = .ok (.aload_n 0, 1) := by decide +kernel
theorem d3_121 : decode prog_38_method_1_code 121 = .ok (.getfield 13, 3) := by decide +kernel
theorem d3_124 : decode prog_38_method_1_code 124 = .ok (.aload_n 0, 1) := by decide +kernel
theorem d3_125 : decode prog_38_method_1_code 125 = .ok (.getfield 23, 3) := by decide +kernel
theorem d3_128 : decode prog_38_method_1_code 128 = .ok (.iload 6, 2) := by decide +kernel
theorem d3_130 : decode prog_38_method_1_code 130 = .ok (.iastore, 1) := by decide +kernel
theorem d3_131 : decode prog_38_method_1_code 131 = .ok (.aload_n 0, 1) := by decide +kernel
theorem d3_132 : decode prog_38_method_1_code 132 = .ok (.getfield 17, 3) := by decide +kernel
theorem d3_135 : decode prog_38_method_1_code 135 = .ok (.aload_n 0, 1) := by decide +kernel
theorem d3_136 : decode prog_38_method_1_code 136 = .ok (.getfield 23, 3) := by decide +kernel
theorem d3_139 : decode prog_38_method_1_code 139 = .ok (.aload_n 0, 1) := by decide +kernel
theorem d3_140 : decode prog_38_method_1_code 140 = .ok (.getfield 23, 3) := by decide +kernel
theorem d3_143 : decode prog_38_method_1_code 143 = .ok (.iastore, 1) := by decide +kernel
theorem d3_144 : decode prog_38_method_1_code 144 = .ok (.aload_n 0, 1) := by decide +kernel
theorem d3_145 : decode prog_38_method_1_code 145 = .ok (.dup, 1) := by decide +kernel
theorem d3_146 : decode prog_38_method_1_code 146 = .ok (.getfield 23, 3) := by decide +kernel
theorem d3_149 : decode prog_38_method_1_code 149 = .ok (.iconst 1, 1) := by decide +kernel
theorem d3_150 : decode prog_38_method_1_code 150 = .ok (.iadd, 1) := by decide +kernel
theorem d3_151 : decode prog_38_method_1_code 151 = .ok (.putfield 23, 3) := by decide +kernel
theorem d3_154 : decode prog_38_method_1_code 154 = .ok (.aload_n 0, 1) := by decide +kernel
theorem d3_155 : decode prog_38_method_1_code 155 = .ok (.getfield 20, 3) := by decide +kernel
theorem d3_158 : decode prog_38_method_1_code 158 = .ok (.aload_n 0, 1) := by decide +kernel
theorem d3_159 : decode prog_38_method_1_code 159 = .ok (.getfield 23, 3) := by decide +kernel
theorem d3_162 : decode prog_38_method_1_code 162 = .ok (.iconst 1, 1) := by decide +kernel
theorem d3_163 : decode prog_38_method_1_code 163 = .ok (.isub, 1) := by decide +kernel
theorem d3_164 : decode prog_38_method_1_code 164 = .ok (.bipush 6, 2) := by decide +kernel
theorem d3_166 : decode prog_38_method_1_code 166 = .ok (.ishl, 1) := by decide +kernel
theorem d3_167 : decode prog_38_method_1_code 167 = .ok (.aload_n 1, 1) := by decide +kernel
theorem d3_168 : decode prog_38_method_1_code 168 = .ok (.iload 5, 2) := by decide +kernel
theorem d3_170 : decode prog_38_method_1_code 170 = .ok (.iaload, 1) := by decide +kernel
theorem d3_171 : decode prog_38_method_1_code 171 = .ok (.bipush 63, 2) := by decide +kernel
theorem d3_173 : decode prog_38_method_1_code 173 = .ok (.iand, 1) := by decide +kernel
theorem d3_174 : decode prog_38_method_1_code 174 = .ok (.ior, 1) := by decide +kernel
theorem d3_175 : decode prog_38_method_1_code 175 = .ok (.aload_n 1, 1) := by decide +kernel
theorem d3_176 : decode prog_38_method_1_code 176 = .ok (.iload 5, 2) := by decide +kernel
theorem d3_178 : decode prog_38_method_1_code 178 = .ok (.iconst 1, 1) := by decide +kernel
theorem d3_179 : decode prog_38_method_1_code 179 = .ok (.iadd, 1) := by decide +kernel
theorem d3_180 : decode prog_38_method_1_code 180 = .ok (.iaload, 1) := by decide +kernel
theorem d3_181 : decode prog_38_method_1_code 181 = .ok (.iastore, 1) := by decide +kernel
theorem d3_182 : decode prog_38_method_1_code 182 = .ok (.aload 4, 2) := by decide +kernel
theorem d3_184 : decode prog_38_method_1_code 184 = .ok (.aload_n 0, 1) := by decide +kernel
theorem d3_185 : decode prog_38_method_1_code 185 = .ok (.getfield 23, 3) := by decide +kernel
theorem d3_188 : decode prog_38_method_1_code 188 = .ok (.iconst 1, 1) := by decide +kernel
theorem d3_189 : decode prog_38_method_1_code 189 = .ok (.isub, 1) := by decide +kernel
theorem d3_190 : decode prog_38_method_1_code 190 = .ok (.dup2, 1) := by decide +kernel
theorem d3_191 : decode prog_38_method_1_code 191 = .ok (.laload, 1) := by decide +kernel
theorem d3_192 : decode prog_38_method_1_code 192 = .ok (.lconst 1, 1) := by decide +kernel
theorem d3_193 : decode prog_38_method_1_code 193 = .ok (.aload_n 1, 1) := by decide +kernel
theorem d3_194 : decode prog_38_method_1_code 194 = .ok (.iload 5, 2) := by decide +kernel
theorem d3_196 : decode prog_38_method_1_code 196 = .ok (.iaload, 1) := by decide +kernel
theorem d3_197 : decode prog_38_method_1_code 197 = .ok (.bipush 63, 2) := by decide +kernel
theorem d3_199 : decode prog_38_method_1_code 199 = .ok (.iand, 1) := by decide +kernel
theorem d3_200 : decode prog_38_method_1_code 200 = .ok (.lshl, 1) := by decide +kernel
theorem d3_201 : decode prog_38_method_1_code 201 = .ok (.lor, 1) := by decide +kernel
theorem d3_202 : decode prog_38_method_1_code 202 = .ok (.lastore, 1) := by decide +kernel
theorem d3_203 : decode prog_38_method_1_code 203 = .ok (.iinc 5 2, 3) := by decide +kernel
theorem d3_206 : decode prog_38_method_1_code 206 = .ok (.goto (-125), 3) := by decide +kernel
theorem d3_21 : decode prog_38_method_1_code 21 = .ok (.aload_n 1, 1) := by decide +kernel
theorem d3_22 : decode prog_38_method_1_code 22 = .ok (.iload 4, 2) := by decide +kernel
theorem d3_24 : decode prog_38_method_1_code 24 = .ok (.iaload, 1) := by decide +kernel
theorem d3_25 : decode prog_38_method_1_code 25 = .ok (.bipush 6, 2) := by decide +kernel
theorem d3_27 : decode prog_38_method_1_code 27 = .ok (.iushr, 1) := by decide +kernel
theorem d3_28 : decode prog_38_method_1_code 28 = .ok (.aload_n 1, 1) := by decide +kernel
theorem d3_29 : decode prog_38_method_1_code 29 = .ok (.iload 4, 2) := by decide +kernel
theorem d3_31 : decode prog_38_method_1_code 31 = .ok (.iconst 2, 1) := by decide +kernel
theorem d3_32 : decode prog_38_method_1_code 32 = .ok (.isub, 1) := by decide +kernel
theorem d3_33 : decode prog_38_method_1_code 33 = .ok (.iaload, 1) := by decide +kernel
theorem d3_34 : decode prog_38_method_1_code 34 = .ok (.bipush 6, 2) := by decide +kernel
theorem d3_36 : decode prog_38_method_1_code 36 = .ok (.iushr, 1) := by decide +kernel
theorem d3_37 : decode prog_38_method_1_code 37 = .ok (.if_icmp .eq 6, 3) := by decide +kernel
theorem d3_43 : decode prog_38_method_1_code 43 = .ok (.iinc 4 2, 3) := by decide +kernel
theorem d3_46 : decode prog_38_method_1_code 46 = .ok (.goto (-32), 3) := by decide +kernel
theorem d3_104 : decode prog_38_method_1_code 104 = .ok (.aload_n 0, 1) := by decide +kernel
theorem d3_105 : decode prog_38_method_1_code 105 = .ok (.getfield 13, 3) := by decide +kernel
theorem d3_108 : decode prog_38_method_1_code 108 = .ok (.aload_n 0, 1) := by decide +kernel
theorem d3_109 : decode prog_38_method_1_code 109 = .ok (.getfield 23, 3) := by decide +kernel
theorem d3_112 : decode prog_38_method_1_code 112 = .ok (.iconst 1, 1) := by decide +kernel
theorem d3_113 : decode prog_38_method_1_code 113 = .ok (.isub, 1) := by decide +kernel
theorem d3_114 : decode prog_38_method_1_code 114 = .ok (.iaload, 1) := by decide +kernel
theorem d3_115 : decode prog_38_method_1_code 115 = .ok (.iload 6, 2) := by decide +kernel
theorem d3_117 : decode prog_38_method_1_code 117 = .ok (.if_icmp .eq 37, 3) := by decide +kernel
theorem d3_40 : decode prog_38_method_1_code 40 = .ok (.iinc 3 1, 3) := by decide +kernel
theorem own_pn2 : plainName "com/example/saturation/saturation/OpenNodeEdgesPinLaw" = true := by first | (simp [plainName, overriddenIn]; done) | decide +kernel
theorem own_ef1_I (m : MethodId) (x0 : Int32) : entryFrame m #[.int x0] 1 = mkF m 0 #[iv x0] [] := by first | (simp [entryFrame, mkF, argsToLocals, Value.category]; done) | rfl
theorem d1_0 : decode method_2_code 0 = .ok (.iload_n 0, 1) := by decide +kernel
theorem d1_1 : decode method_2_code 1 = .ok (.ifCond .ne 7, 3) := by decide +kernel
theorem d1_4 : decode method_2_code 4 = .ok (.iconst 1, 1) := by decide +kernel
theorem d1_5 : decode method_2_code 5 = .ok (.goto 4, 3) := by decide +kernel
theorem d1_9 : decode method_2_code 9 = .ok (.ireturn, 1) := by decide +kernel
theorem d1_8 : decode method_2_code 8 = .ok (.iload_n 0, 1) := by decide +kernel
theorem own_ef2_RIII (m : MethodId) (x0 : Addr) (x1 : Int32) (x2 : Int32) (x3 : Int32) : entryFrame m #[.ref x0, .int x1, .int x2, .int x3] 4 = mkF m 0 #[rv x0, iv x1, iv x2, iv x3] [] := by first | (simp [entryFrame, mkF, argsToLocals, Value.category]; done) | rfl
theorem d2_0 : decode method_3_code 0 = .ok (.aload_n 0, 1) := by decide +kernel
theorem d2_1 : decode method_3_code 1 = .ok (.iload_n 1, 1) := by decide +kernel
theorem d2_2 : decode method_3_code 2 = .ok (.iload_n 2, 1) := by decide +kernel
theorem d2_3 : decode method_3_code 3 = .ok (.iastore, 1) := by decide +kernel
theorem d2_4 : decode method_3_code 4 = .ok (.aload_n 0, 1) := by decide +kernel
theorem d2_5 : decode method_3_code 5 = .ok (.iload_n 1, 1) := by decide +kernel
theorem d2_6 : decode method_3_code 6 = .ok (.iconst 1, 1) := by decide +kernel
theorem d2_7 : decode method_3_code 7 = .ok (.iadd, 1) := by decide +kernel
theorem d2_8 : decode method_3_code 8 = .ok (.iload_n 3, 1) := by decide +kernel
theorem d2_9 : decode method_3_code 9 = .ok (.iastore, 1) := by decide +kernel
theorem d2_10 : decode method_3_code 10 = .ok (.return_, 1) := by decide +kernel
theorem own_ef13_RRII (m : MethodId) (x0 : Addr) (x1 : Addr) (x2 : Int32) (x3 : Int32) : entryFrame m #[.ref x0, .ref x1, .int x2, .int x3] 4 = mkF m 0 #[rv x0, rv x1, iv x2, iv x3] [] := by first | (simp [entryFrame, mkF, argsToLocals, Value.category]; done) | rfl
theorem d13_0 : decode method_4_code 0 = .ok (.iload_n 2, 1) := by decide +kernel
theorem d13_1 : decode method_4_code 1 = .ok (.iload_n 3, 1) := by decide +kernel
theorem d13_2 : decode method_4_code 2 = .ok (.if_icmp .le 12, 3) := by decide +kernel
theorem d13_5 : decode method_4_code 5 = .ok (.aload_n 0, 1) := by decide +kernel
theorem d13_6 : decode method_4_code 6 = .ok (.iload_n 3, 1) := by decide +kernel
theorem d13_7 : decode method_4_code 7 = .ok (.iaload, 1) := by decide +kernel
theorem d13_8 : decode method_4_code 8 = .ok (.aload_n 1, 1) := by decide +kernel
theorem d13_9 : decode method_4_code 9 = .ok (.iload_n 3, 1) := by decide +kernel
theorem d13_10 : decode method_4_code 10 = .ok (.iaload, 1) := by decide +kernel
theorem d13_11 : decode method_4_code 11 = .ok (.if_icmp .ne 7, 3) := by decide +kernel
theorem d13_14 : decode method_4_code 14 = .ok (.iconst 1, 1) := by decide +kernel
theorem d13_15 : decode method_4_code 15 = .ok (.goto 4, 3) := by decide +kernel
theorem d13_19 : decode method_4_code 19 = .ok (.ireturn, 1) := by decide +kernel
theorem own_ef12_RRI (m : MethodId) (x0 : Addr) (x1 : Addr) (x2 : Int32) : entryFrame m #[.ref x0, .ref x1, .int x2] 3 = mkF m 0 #[rv x0, rv x1, iv x2] [] := by first | (simp [entryFrame, mkF, argsToLocals, Value.category]; done) | rfl
theorem d12_0 : decode method_5_code 0 = .ok (.aload_n 0, 1) := by decide +kernel
theorem d12_1 : decode method_5_code 1 = .ok (.arraylength, 1) := by decide +kernel
theorem d12_2 : decode method_5_code 2 = .ok (.iload_n 2, 1) := by decide +kernel
theorem d12_3 : decode method_5_code 3 = .ok (.if_icmp .eq 5, 3) := by decide +kernel
theorem d12_8 : decode method_5_code 8 = .ok (.aload_n 0, 1) := by decide +kernel
theorem d12_9 : decode method_5_code 9 = .ok (.aload_n 1, 1) := by decide +kernel
theorem d12_10 : decode method_5_code 10 = .ok (.iload_n 2, 1) := by decide +kernel
theorem d12_11 : decode method_5_code 11 = .ok (.iconst 0, 1) := by decide +kernel
theorem d12_12 : decode method_5_code 12 = .ok (.invokestatic 7, 3) := by decide +kernel
theorem own_pd6 : parseMethodDescriptor "([I[III)Z" = some ⟨[(.array .int), (.array .int), .int, .int], some .boolean⟩ := by decide +kernel
theorem d12_15 : decode method_5_code 15 = .ok (.ifCond .eq 57, 3) := by decide +kernel
theorem d12_18 : decode method_5_code 18 = .ok (.aload_n 0, 1) := by decide +kernel
theorem d12_19 : decode method_5_code 19 = .ok (.aload_n 1, 1) := by decide +kernel
theorem d12_20 : decode method_5_code 20 = .ok (.iload_n 2, 1) := by decide +kernel
theorem d12_21 : decode method_5_code 21 = .ok (.iconst 1, 1) := by decide +kernel
theorem d12_22 : decode method_5_code 22 = .ok (.invokestatic 7, 3) := by decide +kernel
theorem d12_25 : decode method_5_code 25 = .ok (.ifCond .eq 47, 3) := by decide +kernel
theorem d12_28 : decode method_5_code 28 = .ok (.aload_n 0, 1) := by decide +kernel
theorem d12_29 : decode method_5_code 29 = .ok (.aload_n 1, 1) := by decide +kernel
theorem d12_30 : decode method_5_code 30 = .ok (.iload_n 2, 1) := by decide +kernel
theorem d12_31 : decode method_5_code 31 = .ok (.iconst 2, 1) := by decide +kernel
theorem d12_32 : decode method_5_code 32 = .ok (.invokestatic 7, 3) := by decide +kernel
theorem d12_35 : decode method_5_code 35 = .ok (.ifCond .eq 37, 3) := by decide +kernel
theorem d12_38 : decode method_5_code 38 = .ok (.aload_n 0, 1) := by decide +kernel
theorem d12_39 : decode method_5_code 39 = .ok (.aload_n 1, 1) := by decide +kernel
theorem d12_40 : decode method_5_code 40 = .ok (.iload_n 2, 1) := by decide +kernel
theorem d12_41 : decode method_5_code 41 = .ok (.iconst 3, 1) := by decide +kernel
theorem d12_42 : decode method_5_code 42 = .ok (.invokestatic 7, 3) := by decide +kernel
theorem d12_45 : decode method_5_code 45 = .ok (.ifCond .eq 27, 3) := by decide +kernel
theorem d12_48 : decode method_5_code 48 = .ok (.aload_n 0, 1) := by decide +kernel
theorem d12_49 : decode method_5_code 49 = .ok (.aload_n 1, 1) := by decide +kernel
theorem d12_50 : decode method_5_code 50 = .ok (.iload_n 2, 1) := by decide +kernel
theorem d12_51 : decode method_5_code 51 = .ok (.iconst 4, 1) := by decide +kernel
theorem d12_52 : decode method_5_code 52 = .ok (.invokestatic 7, 3) := by decide +kernel
theorem d12_55 : decode method_5_code 55 = .ok (.ifCond .eq 17, 3) := by decide +kernel
theorem d12_58 : decode method_5_code 58 = .ok (.aload_n 0, 1) := by decide +kernel
theorem d12_59 : decode method_5_code 59 = .ok (.aload_n 1, 1) := by decide +kernel
theorem d12_60 : decode method_5_code 60 = .ok (.iload_n 2, 1) := by decide +kernel
theorem d12_61 : decode method_5_code 61 = .ok (.iconst 5, 1) := by decide +kernel
theorem d12_62 : decode method_5_code 62 = .ok (.invokestatic 7, 3) := by decide +kernel
theorem d12_65 : decode method_5_code 65 = .ok (.ifCond .eq 7, 3) := by decide +kernel
theorem d12_68 : decode method_5_code 68 = .ok (.iconst 1, 1) := by decide +kernel
theorem d12_69 : decode method_5_code 69 = .ok (.goto 4, 3) := by decide +kernel
theorem d12_73 : decode method_5_code 73 = .ok (.ireturn, 1) := by decide +kernel
theorem own_ef0_IIJIII (m : MethodId) (x0 : Int32) (x1 : Int32) (x2 : Int64) (x3 : Int32) (x4 : Int32) (x5 : Int32) : entryFrame m #[.int x0, .int x1, .long x2, .int x3, .int x4, .int x5] maxLocals = mkF m 0 #[iv x0, iv x1, .val (.long x2), .second, iv x3, iv x4, iv x5, .unset, .unset, .unset, .unset, .unset, .unset, .unset, .unset, .unset, .unset, .unset, .unset, .unset, .unset, .unset, .unset] [] := by first | (simp [entryFrame, mkF, argsToLocals, Value.category, maxLocals]; done) | rfl
theorem own_pd7 : parseMethodDescriptor "([IIII)V" = some ⟨[(.array .int), .int, .int, .int], none⟩ := by decide +kernel
theorem own_pd8 : parseMethodDescriptor "([II)V" = some ⟨[(.array .int), .int], none⟩ := by decide +kernel
theorem own_pd9 : parseMethodDescriptor "()[I" = some ⟨[], some (.array .int)⟩ := by decide +kernel
theorem own_pd10 : parseMethodDescriptor "([I[II)Z" = some ⟨[(.array .int), (.array .int), .int], some .boolean⟩ := by decide +kernel
theorem own_pd11 : parseMethodDescriptor "(II)V" = some ⟨[.int, .int], none⟩ := by decide +kernel
def Q_rm_min (Z : State) (u1 : Int32) (u2 : Int32) (h0 : Heap) (n0 : Nat) (v : Option Value) (h : Heap) (L : List Loc) : Prop := v = some (.int (own_mn u1 u2)) ∧ Fr n0 L ∧ h = h0
set_option maxRecDepth 65536 in
set_option maxHeartbeats 40000000 in
theorem rm_min (l : Launch) (Z : State) (a0 : Array Value) (hw : ∀ d ∈ tables_1, d.before a0 Z = true) (ws : List Jvm.Cond) (u1 : Int32) (u2 : Int32) (h0 : Heap) (n0 : Nat) (Z0 : n0 ≤ h0.size) :
  MetFree l (⟨"java/lang/Math", "min", "(II)I"⟩ : MethodName) (head1 (Jvm.Cond.code (⟨"java/lang/Math", "min", "(II)I"⟩ : MethodName) jdk_29_method_69_code 2 (some .int) :: ws) ({ frames := 0, cells := 0, slots := 0, locals := 0 } : Room)) (fun a U => a = #[.int u1, .int u2] ∧ Z.Warmed39 U.vm ∧ U.heap = h0) (fun _ _ _ _ _ => True) (fun _ U o U' => ∃ v L, o = .returned v ∧ Q_rm_min Z u1 u2 h0 n0 v U'.heap L ∧ FrameEnd U o U' L ({ frames := 0, cells := 0, slots := 0, locals := 0 } : Room).cells ({ frames := 0, cells := 0, slots := 0, locals := 0 } : Room).slots) := by
 refine MetFree.of_bodySF (Jvm.Free.JP.mathPlain rfl (by decide +kernel)) hisR ?_
 intro p e s m args below meth c s₁ Bd hml0 hP hK
 obtain ⟨rfl, hZ, hh⟩ := hP
 have hx := Bd.exec
 have hby := Bd.bytes
 have hml : c.maxLocals = 2 := hml0
 have hown : s.vm.findClass "java/lang/Math" = some m.cls := findClass_of_methodNamed Bd.named
 have hnm := (name_of_methodNamed Bd.named Bd.method).1
 have X0 : Stand p l e ({ frames := 0, cells := 0, slots := 0, locals := 0 } : Room) s m #[.int u1, .int u2] below meth c s₁ [] 0 0 := Stand.of_body Bd
 have e0 : s₁.heap = h0 := by rw [← hh, Bd.state]; rfl
 have N0 := Fr.nil n0
 obtain ⟨B0, hB0⟩ : ∃ B, B = (s₁.setTop (entryFrame m #[.int u1, .int u2] 2)) := ⟨_, rfl⟩
 have st0 : own_K p e below s₁ m 0 #[iv u1, iv u2] [] B0 := fun t kk0 => hB0 ▸ castTop (own_ef15_II m u1 u2) kk0
 have st1 : own_K p e below s₁ m 2 #[iv u1, iv u2] [.int u2, .int u1] B0 := fun t kt => st0 t (by
  refine XS.iloadN X0.here hx rfl (hb hby d15_0) rfl ?_
  refine XS.iloadN X0.here hx rfl (hb hby d15_1) rfl ?_
  exact kt)
 by_cases q1 : u2 < u1
 ·have st2 : own_K p e below s₁ m 10 #[iv u1, iv u2] [.int u2] B0 := fun t kt => st1 t (by
   refine XS.icmpYes X0.here hx rfl (pc0 := 2) (pc' := 9) rfl (hb hby d15_2) rfl (tlt q1).2.2.1 (by decide) (by decide) ?_
   refine XS.iloadN X0.here hx rfl (hb hby d15_9) rfl ?_
   exact kt)
  obtain ⟨fs, hr, hrun, hended, hW, hsame⟩ := X0.leave (v := (some (.int u2))) (fun h => by rw [Bd.returns] at h; cases h)
  subst hB0
  refine ⟨_, _, st2 _ ?_, hrun, hended, _, _, rfl, ?_, ⟨_, rfl⟩, hW, hsame.mono (by decide) (by decide)⟩
  ·exact retOut X0 hx Bd.returns rfl (Or.inl ⟨rfl, Or.inl rfl, _, rfl⟩) (hb hby d15_10) hr
  ·show Q_rm_min Z u1 u2 h0 n0 _ s₁.heap _
   rw [e0]
   exact ⟨by simp [own_mn, q1], N0, rfl⟩
 ·have st3 : own_K p e below s₁ m 10 #[iv u1, iv u2] [.int u1] B0 := fun t kt => st1 t (by
   refine XS.icmpNo X0.here hx rfl (hb hby d15_2) rfl (flt q1).2.2.1 ?_
   refine XS.iloadN X0.here hx rfl (hb hby d15_5) rfl ?_
   refine XS.goto X0.here hx rfl (pc0 := 6) (pc' := 10) rfl (hb hby d15_6) (by decide) (by decide) ?_
   exact kt)
  obtain ⟨fs, hr, hrun, hended, hW, hsame⟩ := X0.leave (v := (some (.int u1))) (fun h => by rw [Bd.returns] at h; cases h)
  subst hB0
  refine ⟨_, _, st3 _ ?_, hrun, hended, _, _, rfl, ?_, ⟨_, rfl⟩, hW, hsame.mono (by decide) (by decide)⟩
  ·exact retOut X0 hx Bd.returns rfl (Or.inl ⟨rfl, Or.inl rfl, _, rfl⟩) (hb hby d15_10) hr
  ·show Q_rm_min Z u1 u2 h0 n0 _ s₁.heap _
   rw [e0]
   exact ⟨by simp [own_mn, q1], N0, rfl⟩
def Q_rm_cpS (Z : State) (asr : Addr) (n : Nat) (gg : Nat → Int32) (k : Nat) (h0 : Heap) (n0 : Nat) (v : Option Value) (h : Heap) (L : List Loc) : Prop := ∃ b, v = some (.ref b) ∧ Fr n0 L ∧ Keep h0 h [] ∧ n0 ≤ b ∧ h0.size ≤ b ∧ own_Av Z h b .int k (fun q => .int (if q < n then gg q else 0))
set_option maxRecDepth 65536 in
set_option maxHeartbeats 40000000 in
theorem rm_cpS (l : Launch) (Z : State) (a0 : Array Value) (hw : ∀ d ∈ tables_1, d.before a0 Z = true) (ws : List Jvm.Cond) (asr : Addr) (n : Nat) (gg : Nat → Int32) (k : Nat) (h0 : Heap) (n0 : Nat) (Z0 : n0 ≤ h0.size) (Asr : own_Av Z h0 asr .int n (fun q => .int (gg q))) (hkn : n < k) (hkc : k ≤ 4) :
  MetFree l (⟨"java/util/Arrays", "copyOf", "([II)[I"⟩ : MethodName) (head1 (Jvm.Cond.code (⟨"java/util/Arrays", "copyOf", "([II)[I"⟩ : MethodName) jdk_65_method_123_code 3 (some (.array .int)) :: ws) ({ frames := 1, cells := 1, slots := 4, locals := 18 } : Room)) (fun a U => a = #[.ref asr, .int (Int32.ofNat k)] ∧ Z.Warmed39 U.vm ∧ U.heap = h0) (fun _ _ _ _ _ => True) (fun _ U o U' => ∃ v L, o = .returned v ∧ Q_rm_cpS Z asr n gg k h0 n0 v U'.heap L ∧ FrameEnd U o U' L ({ frames := 1, cells := 1, slots := 4, locals := 18 } : Room).cells ({ frames := 1, cells := 1, slots := 4, locals := 18 } : Room).slots) := by
 refine MetFree.of_bodySF (plainFor_of_name own_pn0) hisR ?_
 intro p e s m args below meth c s₁ Bd hml0 hP hK
 obtain ⟨rfl, hZ, hh⟩ := hP
 have hx := Bd.exec
 have hby := Bd.bytes
 have hml : c.maxLocals = 3 := hml0
 have hown : s.vm.findClass "java/util/Arrays" = some m.cls := findClass_of_methodNamed Bd.named
 have hnm := (name_of_methodNamed Bd.named Bd.method).1
 have X0 : Stand p l e ({ frames := 1, cells := 1, slots := 4, locals := 18 } : Room) s m #[.ref asr, .int (Int32.ofNat k)] below meth c s₁ [] 0 0 := Stand.of_body Bd
 have e0 : s₁.heap = h0 := by rw [← hh, Bd.state]; rfl
 have N0 := Fr.nil n0
 obtain ⟨B0, hB0⟩ : ∃ B, B = (s₁.setTop (entryFrame m #[.ref asr, .int (Int32.ofNat k)] 3)) := ⟨_, rfl⟩
 have st0 : own_K p e below s₁ m 0 #[rv asr, iv (Int32.ofNat k), .unset] [] B0 := fun t kk0 => hB0 ▸ castTop (own_ef14_RI m asr (Int32.ofNat k)) kk0
 have k0 : Keep h0 h0 [] := Keep.refl _ _
 have hn31 := Asr.small
 have hk31 : k < 2 ^ 31 := by omega
 have kk := own_nat32 hk31
 have st1 : own_K p e below s₁ m 2 #[rv asr, iv (Int32.ofNat k), .unset] [.ref asr, .int (Int32.ofNat k)] B0 := fun t kt => st0 t (by
  refine XS.iloadN X0.here hx rfl (hb hby d14_0) rfl ?_
  refine XS.aloadN X0.here hx rfl (hb hby d14_1) rfl rfl ?_
  exact kt)
 have ls2 := own_alen X0 hx hZ e0 Asr (g := (mkF m 2 #[rv asr, iv (Int32.ofNat k), .unset] [.ref asr, .int (Int32.ofNat k)])) rfl rfl (hb hby d14_2)
 have st3 := fun t kt => st1 t (ls2 t kt)
 have hc4 : ¬ ((Int32.ofNat k) = (Int32.ofNat n)) := fun z => by
   have e := (own_nat32 hn31).1
   rw [← z, kk.1] at e
   omega
 have st5 : own_K p e below s₁ m 15 #[rv asr, iv (Int32.ofNat k), .unset] [.int (Int32.ofNat k)] B0 := fun t kt => st3 t (by
  refine XS.icmpYes X0.here hx rfl (pc0 := 3) (pc' := 14) rfl (hb hby d14_3) rfl (feq hc4).2 (by decide) (by decide) ?_
  refine XS.iloadN X0.here hx rfl (hb hby d14_14) rfl ?_
  exact kt)
 obtain ⟨T6, h6, c6, X6, e6, E6, A6, ls6⟩ := newP X0 hx hZ (own_w hw 6 rfl) e0 (g := (mkF m 15 #[rv asr, iv (Int32.ofNat k), .unset] [.int (Int32.ofNat k)])) rfl (hb hby d14_15) rfl (kk.2) (cap := 4) (by rw [kk.1]; exact hkc) (by decide) (by decide) (by decide)
 obtain ⟨bn, g6⟩ : ∃ z, z = h0.size := ⟨_, rfl⟩
 rw [← g6] at A6 ls6
 have g_bn : n0 ≤ bn := Nat.le_trans Z0 (Nat.le_of_eq g6.symm)
 have sz_bn : h0.size ≤ bn := Nat.le_trans k0.1 (Nat.le_of_eq g6.symm)
 have f7 := Asr.ext E6
 have z8 := Nat.le_trans Z0 E6.1
 have k9 := k0.ext E6
 have f10 : own_Av Z h6 bn .int k (fun _ => (.int 0)) := own_Av.new A6 (kk.2) (kk.1)
 have st11 := fun t kt => st5 t (ls6 t kt)
 have st12 : own_K p e below T6 m 23 #[rv asr, iv (Int32.ofNat k), rv bn] [.ref asr, .int 0, .ref bn, .int 0, .ref asr] B0 := fun t kt => st11 t (by
  refine XS.astoreN X6.here hx rfl (hb hby d14_17) rfl rfl (l' := #[rv asr, iv (Int32.ofNat k), rv bn]) rfl ?_
  refine XS.aloadN X6.here hx rfl (hb hby d14_18) rfl rfl ?_
  refine XS.iconst X6.here hx rfl (hb hby d14_19) ?_
  refine XS.aloadN X6.here hx rfl (hb hby d14_20) rfl rfl ?_
  refine XS.iconst X6.here hx rfl (hb hby d14_21) ?_
  refine XS.aloadN X6.here hx rfl (hb hby d14_22) rfl rfl ?_
  exact kt)
 have ls13 := own_alen X6 hx hZ e6 f7 (g := (mkF m 23 #[rv asr, iv (Int32.ofNat k), rv bn] [.ref asr, .int 0, .ref bn, .int 0, .ref asr])) rfl rfl (hb hby d14_23)
 have st14 := fun t kt => st12 t (ls13 t kt)
 have st15 : own_K p e below T6 m 25 #[rv asr, iv (Int32.ofNat k), rv bn] [.int (Int32.ofNat k), .int (Int32.ofNat n), .int 0, .ref bn, .int 0, .ref asr] B0 := fun t kt => st14 t (by
  refine XS.iloadN X6.here hx rfl (hb hby d14_24) rfl ?_
  exact kt)
 obtain ⟨_, _, ⟨T16, L16, k16, n16⟩, -, X16, ⟨Lc16, hQ16, l16, y16, z16⟩, ls16⟩ := Jvm.LawKit.callS X6 hx (y := (⟨"java/lang/Math", "min", "(II)I"⟩ : MethodName)) hown (mvT hZ (own_w hw 89 rfl)) (mvT hZ (own_w hw 90 rfl)) (mvT hZ (own_w hw 91 rfl)) (mvT hZ (own_w hw 92 rfl)) (by decide) (backOf (W := 4) (rm_min l Z a0 hw [] ((Int32.ofNat n)) ((Int32.ofNat k)) h6 n0 z8) hZ (own_w hw 92 rfl) (own_w hw 91 rfl) (by decide) (by decide)) (g := (mkF m 25 #[rv asr, iv (Int32.ofNat k), rv bn] [.int (Int32.ofNat k), .int (Int32.ofNat n), .int 0, .ref bn, .int 0, .ref asr])) rfl (by rw [hml]; rfl) (argsL := [.int (Int32.ofNat n), .int (Int32.ofNat k)]) (rest := [.int 0, .ref bn, .int 0, .ref asr]) (lenOf own_pd0 rfl) rfl (by show 2 * 0 + _ ≤ _; exact Nat.le_of_eq rfl) (hb hby d14_25) (fun _ _ => ⟨rfl, e6, (by decide : 1 + 0 ≤ _), (by decide : 4 + 0 ≤ _)⟩)
 dsimp only [Pt.U, Pt.locs, Pt.cells, Pt.slots] at X16 l16 y16 z16 ls16 hQ16
 subst l16 y16 z16
 obtain ⟨rfl, Nq16, eq16⟩ := hQ16
 have N16 := Fr.app N0 Nq16
 have st17 := fun t kt => st15 t (ls16 t kt)
 have st18 : own_K p e below T16 m 28 #[rv asr, iv (Int32.ofNat k), rv bn] [.int (Int32.ofNat n), .int 0, .ref bn, .int 0, .ref asr] B0 := fun t kt => st17 t (by
  show own_At p e below T16 m 28 #[rv asr, iv (Int32.ofNat k), rv bn] [(.int (own_mn (Int32.ofNat n) (Int32.ofNat k))), .int 0, .ref bn, .int 0, .ref asr] _
  rw [show (own_mn (Int32.ofNat n) (Int32.ofNat k)) = (Int32.ofNat n) from (own_mn_eq hk31 hkn)]
  exact kt)
 obtain ⟨T19, h19, L19, X19, e19, N19, K19, B19, ls19⟩ := own_cp X16 hx hZ hown (own_w hw 93 rfl) (own_w hw 64 rfl) (own_w hw 62 rfl) (own_w hw 63 rfl) eq16 (ty := .int) rfl f7 f10 (fun _ _ => rfl) (fun _ _ => rfl) (i := 0) (j := 0) (k := n) (by decide) (by decide) (by decide) (by decide) ((own_nat32 hn31).2) ((own_nat32 hn31).1) (by omega) (by omega) N16 g_bn (g := (mkF m 28 #[rv asr, iv (Int32.ofNat k), rv bn] [.int (Int32.ofNat n), .int 0, .ref bn, .int 0, .ref asr])) rfl (by rw [hml]; rfl) rfl (hb hby d14_28) (by decide) (W := 0) (by show 2 * 0 + _ ≤ _; exact Nat.le_of_eq rfl) (by decide)
 have z22 := Nat.le_trans z8 K19.1
 have k23 := Keep.trans k9 K19 (allS (P := fun x => x ∈ [] ∨ h0.size ≤ x) (Or.inr sz_bn) all0)
 have f24 : own_Av Z h19 bn .int k (fun q => .int (if q < n then gg q else 0)) := B19.congr (fun q hq => by
   by_cases z : q < n
   ·simp [z]
   ·simp [z])
 have st25 := fun t kt => st18 t (ls19 t kt)
 have st26 : own_K p e below T19 m 32 #[rv asr, iv (Int32.ofNat k), rv bn] [.ref bn] B0 := fun t kt => st25 t (by
  refine XS.aloadN X19.here hx rfl (hb hby d14_31) rfl rfl ?_
  exact kt)
 obtain ⟨fs, hr, hrun, hended, hW, hsame⟩ := X19.leave (v := (some (.ref bn))) (fun h => by rw [Bd.returns] at h; cases h)
 subst hB0
 refine ⟨_, _, st26 _ ?_, hrun, hended, _, _, rfl, ?_, ⟨_, rfl⟩, hW, hsame.mono (by decide) (by decide)⟩
 ·exact retOut X19 hx Bd.returns rfl (Or.inr (Or.inr (Or.inr (Or.inr ⟨rfl, rfl, rfl⟩)))) (hb hby d14_32) hr
 ·show Q_rm_cpS Z asr n gg k h0 n0 _ T19.heap _
  rw [e19]
  exact ⟨bn, rfl, N19, k23, g_bn, sz_bn, f24⟩
def Q_rm_cpB (Z : State) (asr : Addr) (n : Nat) (gg : Nat → Int32) (k : Nat) (h0 : Heap) (n0 : Nat) (v : Option Value) (h : Heap) (L : List Loc) : Prop := ∃ b, v = some (.ref b) ∧ Fr n0 L ∧ Keep h0 h [] ∧ n0 ≤ b ∧ h0.size ≤ b ∧ own_Av Z h b .int k (fun q => .int (if q < n then gg q else 0))
set_option maxRecDepth 65536 in
set_option maxHeartbeats 40000000 in
theorem rm_cpB (l : Launch) (Z : State) (a0 : Array Value) (hw : ∀ d ∈ tables_1, d.before a0 Z = true) (ws : List Jvm.Cond) (asr : Addr) (n : Nat) (gg : Nat → Int32) (k : Nat) (h0 : Heap) (n0 : Nat) (Z0 : n0 ≤ h0.size) (Asr : own_Av Z h0 asr .int n (fun q => .int (gg q))) (hkn : n < k) (hkc : k ≤ 256) :
  MetFree l (⟨"java/util/Arrays", "copyOf", "([II)[I"⟩ : MethodName) (head1 (Jvm.Cond.code (⟨"java/util/Arrays", "copyOf", "([II)[I"⟩ : MethodName) jdk_65_method_123_code 3 (some (.array .int)) :: ws) ({ frames := 1, cells := 1, slots := 256, locals := 18 } : Room)) (fun a U => a = #[.ref asr, .int (Int32.ofNat k)] ∧ Z.Warmed39 U.vm ∧ U.heap = h0) (fun _ _ _ _ _ => True) (fun _ U o U' => ∃ v L, o = .returned v ∧ Q_rm_cpB Z asr n gg k h0 n0 v U'.heap L ∧ FrameEnd U o U' L ({ frames := 1, cells := 1, slots := 256, locals := 18 } : Room).cells ({ frames := 1, cells := 1, slots := 256, locals := 18 } : Room).slots) := by
 refine MetFree.of_bodySF (plainFor_of_name own_pn0) hisR ?_
 intro p e s m args below meth c s₁ Bd hml0 hP hK
 obtain ⟨rfl, hZ, hh⟩ := hP
 have hx := Bd.exec
 have hby := Bd.bytes
 have hml : c.maxLocals = 3 := hml0
 have hown : s.vm.findClass "java/util/Arrays" = some m.cls := findClass_of_methodNamed Bd.named
 have hnm := (name_of_methodNamed Bd.named Bd.method).1
 have X0 : Stand p l e ({ frames := 1, cells := 1, slots := 256, locals := 18 } : Room) s m #[.ref asr, .int (Int32.ofNat k)] below meth c s₁ [] 0 0 := Stand.of_body Bd
 have e0 : s₁.heap = h0 := by rw [← hh, Bd.state]; rfl
 have N0 := Fr.nil n0
 obtain ⟨B0, hB0⟩ : ∃ B, B = (s₁.setTop (entryFrame m #[.ref asr, .int (Int32.ofNat k)] 3)) := ⟨_, rfl⟩
 have st0 : own_K p e below s₁ m 0 #[rv asr, iv (Int32.ofNat k), .unset] [] B0 := fun t kk0 => hB0 ▸ castTop (own_ef14_RI m asr (Int32.ofNat k)) kk0
 have k0 : Keep h0 h0 [] := Keep.refl _ _
 have hn31 := Asr.small
 have hk31 : k < 2 ^ 31 := by omega
 have kk := own_nat32 hk31
 have st1 : own_K p e below s₁ m 2 #[rv asr, iv (Int32.ofNat k), .unset] [.ref asr, .int (Int32.ofNat k)] B0 := fun t kt => st0 t (by
  refine XS.iloadN X0.here hx rfl (hb hby d14_0) rfl ?_
  refine XS.aloadN X0.here hx rfl (hb hby d14_1) rfl rfl ?_
  exact kt)
 have ls2 := own_alen X0 hx hZ e0 Asr (g := (mkF m 2 #[rv asr, iv (Int32.ofNat k), .unset] [.ref asr, .int (Int32.ofNat k)])) rfl rfl (hb hby d14_2)
 have st3 := fun t kt => st1 t (ls2 t kt)
 have hc4 : ¬ ((Int32.ofNat k) = (Int32.ofNat n)) := fun z => by
   have e := (own_nat32 hn31).1
   rw [← z, kk.1] at e
   omega
 have st5 : own_K p e below s₁ m 15 #[rv asr, iv (Int32.ofNat k), .unset] [.int (Int32.ofNat k)] B0 := fun t kt => st3 t (by
  refine XS.icmpYes X0.here hx rfl (pc0 := 3) (pc' := 14) rfl (hb hby d14_3) rfl (feq hc4).2 (by decide) (by decide) ?_
  refine XS.iloadN X0.here hx rfl (hb hby d14_14) rfl ?_
  exact kt)
 obtain ⟨T6, h6, c6, X6, e6, E6, A6, ls6⟩ := newP X0 hx hZ (own_w hw 6 rfl) e0 (g := (mkF m 15 #[rv asr, iv (Int32.ofNat k), .unset] [.int (Int32.ofNat k)])) rfl (hb hby d14_15) rfl (kk.2) (cap := 256) (by rw [kk.1]; exact hkc) (by decide) (by decide) (by decide)
 obtain ⟨bn, g6⟩ : ∃ z, z = h0.size := ⟨_, rfl⟩
 rw [← g6] at A6 ls6
 have g_bn : n0 ≤ bn := Nat.le_trans Z0 (Nat.le_of_eq g6.symm)
 have sz_bn : h0.size ≤ bn := Nat.le_trans k0.1 (Nat.le_of_eq g6.symm)
 have f7 := Asr.ext E6
 have z8 := Nat.le_trans Z0 E6.1
 have k9 := k0.ext E6
 have f10 : own_Av Z h6 bn .int k (fun _ => (.int 0)) := own_Av.new A6 (kk.2) (kk.1)
 have st11 := fun t kt => st5 t (ls6 t kt)
 have st12 : own_K p e below T6 m 23 #[rv asr, iv (Int32.ofNat k), rv bn] [.ref asr, .int 0, .ref bn, .int 0, .ref asr] B0 := fun t kt => st11 t (by
  refine XS.astoreN X6.here hx rfl (hb hby d14_17) rfl rfl (l' := #[rv asr, iv (Int32.ofNat k), rv bn]) rfl ?_
  refine XS.aloadN X6.here hx rfl (hb hby d14_18) rfl rfl ?_
  refine XS.iconst X6.here hx rfl (hb hby d14_19) ?_
  refine XS.aloadN X6.here hx rfl (hb hby d14_20) rfl rfl ?_
  refine XS.iconst X6.here hx rfl (hb hby d14_21) ?_
  refine XS.aloadN X6.here hx rfl (hb hby d14_22) rfl rfl ?_
  exact kt)
 have ls13 := own_alen X6 hx hZ e6 f7 (g := (mkF m 23 #[rv asr, iv (Int32.ofNat k), rv bn] [.ref asr, .int 0, .ref bn, .int 0, .ref asr])) rfl rfl (hb hby d14_23)
 have st14 := fun t kt => st12 t (ls13 t kt)
 have st15 : own_K p e below T6 m 25 #[rv asr, iv (Int32.ofNat k), rv bn] [.int (Int32.ofNat k), .int (Int32.ofNat n), .int 0, .ref bn, .int 0, .ref asr] B0 := fun t kt => st14 t (by
  refine XS.iloadN X6.here hx rfl (hb hby d14_24) rfl ?_
  exact kt)
 obtain ⟨_, _, ⟨T16, L16, k16, n16⟩, -, X16, ⟨Lc16, hQ16, l16, y16, z16⟩, ls16⟩ := Jvm.LawKit.callS X6 hx (y := (⟨"java/lang/Math", "min", "(II)I"⟩ : MethodName)) hown (mvT hZ (own_w hw 89 rfl)) (mvT hZ (own_w hw 90 rfl)) (mvT hZ (own_w hw 91 rfl)) (mvT hZ (own_w hw 92 rfl)) (by decide) (backOf (W := 4) (rm_min l Z a0 hw [] ((Int32.ofNat n)) ((Int32.ofNat k)) h6 n0 z8) hZ (own_w hw 92 rfl) (own_w hw 91 rfl) (by decide) (by decide)) (g := (mkF m 25 #[rv asr, iv (Int32.ofNat k), rv bn] [.int (Int32.ofNat k), .int (Int32.ofNat n), .int 0, .ref bn, .int 0, .ref asr])) rfl (by rw [hml]; rfl) (argsL := [.int (Int32.ofNat n), .int (Int32.ofNat k)]) (rest := [.int 0, .ref bn, .int 0, .ref asr]) (lenOf own_pd0 rfl) rfl (by show 2 * 0 + _ ≤ _; exact Nat.le_of_eq rfl) (hb hby d14_25) (fun _ _ => ⟨rfl, e6, (by decide : 1 + 0 ≤ _), (by decide : 256 + 0 ≤ _)⟩)
 dsimp only [Pt.U, Pt.locs, Pt.cells, Pt.slots] at X16 l16 y16 z16 ls16 hQ16
 subst l16 y16 z16
 obtain ⟨rfl, Nq16, eq16⟩ := hQ16
 have N16 := Fr.app N0 Nq16
 have st17 := fun t kt => st15 t (ls16 t kt)
 have st18 : own_K p e below T16 m 28 #[rv asr, iv (Int32.ofNat k), rv bn] [.int (Int32.ofNat n), .int 0, .ref bn, .int 0, .ref asr] B0 := fun t kt => st17 t (by
  show own_At p e below T16 m 28 #[rv asr, iv (Int32.ofNat k), rv bn] [(.int (own_mn (Int32.ofNat n) (Int32.ofNat k))), .int 0, .ref bn, .int 0, .ref asr] _
  rw [show (own_mn (Int32.ofNat n) (Int32.ofNat k)) = (Int32.ofNat n) from (own_mn_eq hk31 hkn)]
  exact kt)
 obtain ⟨T19, h19, L19, X19, e19, N19, K19, B19, ls19⟩ := own_cp X16 hx hZ hown (own_w hw 93 rfl) (own_w hw 64 rfl) (own_w hw 62 rfl) (own_w hw 63 rfl) eq16 (ty := .int) rfl f7 f10 (fun _ _ => rfl) (fun _ _ => rfl) (i := 0) (j := 0) (k := n) (by decide) (by decide) (by decide) (by decide) ((own_nat32 hn31).2) ((own_nat32 hn31).1) (by omega) (by omega) N16 g_bn (g := (mkF m 28 #[rv asr, iv (Int32.ofNat k), rv bn] [.int (Int32.ofNat n), .int 0, .ref bn, .int 0, .ref asr])) rfl (by rw [hml]; rfl) rfl (hb hby d14_28) (by decide) (W := 0) (by show 2 * 0 + _ ≤ _; exact Nat.le_of_eq rfl) (by decide)
 have z22 := Nat.le_trans z8 K19.1
 have k23 := Keep.trans k9 K19 (allS (P := fun x => x ∈ [] ∨ h0.size ≤ x) (Or.inr sz_bn) all0)
 have f24 : own_Av Z h19 bn .int k (fun q => .int (if q < n then gg q else 0)) := B19.congr (fun q hq => by
   by_cases z : q < n
   ·simp [z]
   ·simp [z])
 have st25 := fun t kt => st18 t (ls19 t kt)
 have st26 : own_K p e below T19 m 32 #[rv asr, iv (Int32.ofNat k), rv bn] [.ref bn] B0 := fun t kt => st25 t (by
  refine XS.aloadN X19.here hx rfl (hb hby d14_31) rfl rfl ?_
  exact kt)
 obtain ⟨fs, hr, hrun, hended, hW, hsame⟩ := X19.leave (v := (some (.ref bn))) (fun h => by rw [Bd.returns] at h; cases h)
 subst hB0
 refine ⟨_, _, st26 _ ?_, hrun, hended, _, _, rfl, ?_, ⟨_, rfl⟩, hW, hsame.mono (by decide) (by decide)⟩
 ·exact retOut X19 hx Bd.returns rfl (Or.inr (Or.inr (Or.inr (Or.inr ⟨rfl, rfl, rfl⟩)))) (hb hby d14_32) hr
 ·show Q_rm_cpB Z asr n gg k h0 n0 _ T19.heap _
  rw [e19]
  exact ⟨bn, rfl, N19, k23, g_bn, sz_bn, f24⟩
def Q_rm_cpJ (Z : State) (asr : Addr) (n : Nat) (gg : Nat → Int64) (k : Nat) (h0 : Heap) (n0 : Nat) (v : Option Value) (h : Heap) (L : List Loc) : Prop := ∃ b, v = some (.ref b) ∧ Fr n0 L ∧ Keep h0 h [] ∧ n0 ≤ b ∧ h0.size ≤ b ∧ Exa Z h b "[J" ∧ own_Av Z h b .long k (fun q => .long (if q < n then gg q else 0))
set_option maxRecDepth 65536 in
set_option maxHeartbeats 40000000 in
theorem rm_cpJ (l : Launch) (Z : State) (a0 : Array Value) (hw : ∀ d ∈ tables_1, d.before a0 Z = true) (ws : List Jvm.Cond) (asr : Addr) (n : Nat) (gg : Nat → Int64) (k : Nat) (h0 : Heap) (n0 : Nat) (Z0 : n0 ≤ h0.size) (Asr : own_Av Z h0 asr .long n (fun q => .long (gg q))) (hkn : n < k) (hkc : k ≤ 4) :
  MetFree l (⟨"java/util/Arrays", "copyOf", "([JI)[J"⟩ : MethodName) (head1 (Jvm.Cond.code (⟨"java/util/Arrays", "copyOf", "([JI)[J"⟩ : MethodName) jdk_65_method_124_code 3 (some (.array .long)) :: ws) ({ frames := 1, cells := 1, slots := 4, locals := 18 } : Room)) (fun a U => a = #[.ref asr, .int (Int32.ofNat k)] ∧ Z.Warmed39 U.vm ∧ U.heap = h0) (fun _ _ _ _ _ => True) (fun _ U o U' => ∃ v L, o = .returned v ∧ Q_rm_cpJ Z asr n gg k h0 n0 v U'.heap L ∧ FrameEnd U o U' L ({ frames := 1, cells := 1, slots := 4, locals := 18 } : Room).cells ({ frames := 1, cells := 1, slots := 4, locals := 18 } : Room).slots) := by
 refine MetFree.of_bodySF (plainFor_of_name own_pn0) hisR ?_
 intro p e s m args below meth c s₁ Bd hml0 hP hK
 obtain ⟨rfl, hZ, hh⟩ := hP
 have hx := Bd.exec
 have hby := Bd.bytes
 have hml : c.maxLocals = 3 := hml0
 have hown : s.vm.findClass "java/util/Arrays" = some m.cls := findClass_of_methodNamed Bd.named
 have hnm := (name_of_methodNamed Bd.named Bd.method).1
 have X0 : Stand p l e ({ frames := 1, cells := 1, slots := 4, locals := 18 } : Room) s m #[.ref asr, .int (Int32.ofNat k)] below meth c s₁ [] 0 0 := Stand.of_body Bd
 have e0 : s₁.heap = h0 := by rw [← hh, Bd.state]; rfl
 have N0 := Fr.nil n0
 obtain ⟨B0, hB0⟩ : ∃ B, B = (s₁.setTop (entryFrame m #[.ref asr, .int (Int32.ofNat k)] 3)) := ⟨_, rfl⟩
 have st0 : own_K p e below s₁ m 0 #[rv asr, iv (Int32.ofNat k), .unset] [] B0 := fun t kk0 => hB0 ▸ castTop (own_ef16_RI m asr (Int32.ofNat k)) kk0
 have k0 : Keep h0 h0 [] := Keep.refl _ _
 have hn31 := Asr.small
 have hk31 : k < 2 ^ 31 := by omega
 have kk := own_nat32 hk31
 have st1 : own_K p e below s₁ m 2 #[rv asr, iv (Int32.ofNat k), .unset] [.ref asr, .int (Int32.ofNat k)] B0 := fun t kt => st0 t (by
  refine XS.iloadN X0.here hx rfl (hb hby d16_0) rfl ?_
  refine XS.aloadN X0.here hx rfl (hb hby d16_1) rfl rfl ?_
  exact kt)
 have ls2 := own_alen X0 hx hZ e0 Asr (g := (mkF m 2 #[rv asr, iv (Int32.ofNat k), .unset] [.ref asr, .int (Int32.ofNat k)])) rfl rfl (hb hby d16_2)
 have st3 := fun t kt => st1 t (ls2 t kt)
 have hc4 : ¬ ((Int32.ofNat k) = (Int32.ofNat n)) := fun z => by
   have e := (own_nat32 hn31).1
   rw [← z, kk.1] at e
   omega
 have st5 : own_K p e below s₁ m 15 #[rv asr, iv (Int32.ofNat k), .unset] [.int (Int32.ofNat k)] B0 := fun t kt => st3 t (by
  refine XS.icmpYes X0.here hx rfl (pc0 := 3) (pc' := 14) rfl (hb hby d16_3) rfl (feq hc4).2 (by decide) (by decide) ?_
  refine XS.iloadN X0.here hx rfl (hb hby d16_14) rfl ?_
  exact kt)
 obtain ⟨T6, h6, c6, X6, e6, E6, A6, B6, ls6⟩ := newPE X0 hx hZ (own_w hw 27 rfl) e0 (g := (mkF m 15 #[rv asr, iv (Int32.ofNat k), .unset] [.int (Int32.ofNat k)])) rfl (hb hby d16_15) rfl (kk.2) (cap := 4) (by rw [kk.1]; exact hkc) (by decide) (by decide) (by decide) (ad := "[J") (by decide)
 obtain ⟨bn, g6⟩ : ∃ z, z = h0.size := ⟨_, rfl⟩
 rw [← g6] at A6 B6 ls6
 have g_bn : n0 ≤ bn := Nat.le_trans Z0 (Nat.le_of_eq g6.symm)
 have sz_bn : h0.size ≤ bn := Nat.le_trans k0.1 (Nat.le_of_eq g6.symm)
 have f7 := Asr.ext E6
 have z8 := Nat.le_trans Z0 E6.1
 have k9 := k0.ext E6
 have f10 : own_Av Z h6 bn .long k (fun _ => (.long (0 : Int64))) := own_Av.new A6 (kk.2) (kk.1)
 have st11 := fun t kt => st5 t (ls6 t kt)
 have st12 : own_K p e below T6 m 23 #[rv asr, iv (Int32.ofNat k), rv bn] [.ref asr, .int 0, .ref bn, .int 0, .ref asr] B0 := fun t kt => st11 t (by
  refine XS.astoreN X6.here hx rfl (hb hby d16_17) rfl rfl (l' := #[rv asr, iv (Int32.ofNat k), rv bn]) rfl ?_
  refine XS.aloadN X6.here hx rfl (hb hby d16_18) rfl rfl ?_
  refine XS.iconst X6.here hx rfl (hb hby d16_19) ?_
  refine XS.aloadN X6.here hx rfl (hb hby d16_20) rfl rfl ?_
  refine XS.iconst X6.here hx rfl (hb hby d16_21) ?_
  refine XS.aloadN X6.here hx rfl (hb hby d16_22) rfl rfl ?_
  exact kt)
 have ls13 := own_alen X6 hx hZ e6 f7 (g := (mkF m 23 #[rv asr, iv (Int32.ofNat k), rv bn] [.ref asr, .int 0, .ref bn, .int 0, .ref asr])) rfl rfl (hb hby d16_23)
 have st14 := fun t kt => st12 t (ls13 t kt)
 have st15 : own_K p e below T6 m 25 #[rv asr, iv (Int32.ofNat k), rv bn] [.int (Int32.ofNat k), .int (Int32.ofNat n), .int 0, .ref bn, .int 0, .ref asr] B0 := fun t kt => st14 t (by
  refine XS.iloadN X6.here hx rfl (hb hby d16_24) rfl ?_
  exact kt)
 obtain ⟨_, _, ⟨T16, L16, k16, n16⟩, -, X16, ⟨Lc16, hQ16, l16, y16, z16⟩, ls16⟩ := Jvm.LawKit.callS X6 hx (y := (⟨"java/lang/Math", "min", "(II)I"⟩ : MethodName)) hown (mvT hZ (own_w hw 89 rfl)) (mvT hZ (own_w hw 90 rfl)) (mvT hZ (own_w hw 91 rfl)) (mvT hZ (own_w hw 92 rfl)) (by decide) (backOf (W := 4) (rm_min l Z a0 hw [] ((Int32.ofNat n)) ((Int32.ofNat k)) h6 n0 z8) hZ (own_w hw 92 rfl) (own_w hw 91 rfl) (by decide) (by decide)) (g := (mkF m 25 #[rv asr, iv (Int32.ofNat k), rv bn] [.int (Int32.ofNat k), .int (Int32.ofNat n), .int 0, .ref bn, .int 0, .ref asr])) rfl (by rw [hml]; rfl) (argsL := [.int (Int32.ofNat n), .int (Int32.ofNat k)]) (rest := [.int 0, .ref bn, .int 0, .ref asr]) (lenOf own_pd0 rfl) rfl (by show 2 * 0 + _ ≤ _; exact Nat.le_of_eq rfl) (hb hby d16_25) (fun _ _ => ⟨rfl, e6, (by decide : 1 + 0 ≤ _), (by decide : 4 + 0 ≤ _)⟩)
 dsimp only [Pt.U, Pt.locs, Pt.cells, Pt.slots] at X16 l16 y16 z16 ls16 hQ16
 subst l16 y16 z16
 obtain ⟨rfl, Nq16, eq16⟩ := hQ16
 have N16 := Fr.app N0 Nq16
 have st17 := fun t kt => st15 t (ls16 t kt)
 have st18 : own_K p e below T16 m 28 #[rv asr, iv (Int32.ofNat k), rv bn] [.int (Int32.ofNat n), .int 0, .ref bn, .int 0, .ref asr] B0 := fun t kt => st17 t (by
  show own_At p e below T16 m 28 #[rv asr, iv (Int32.ofNat k), rv bn] [(.int (own_mn (Int32.ofNat n) (Int32.ofNat k))), .int 0, .ref bn, .int 0, .ref asr] _
  rw [show (own_mn (Int32.ofNat n) (Int32.ofNat k)) = (Int32.ofNat n) from (own_mn_eq hk31 hkn)]
  exact kt)
 obtain ⟨T19, h19, L19, X19, e19, N19, K19, B19, ls19⟩ := own_cp X16 hx hZ hown (own_w hw 93 rfl) (own_w hw 64 rfl) (own_w hw 62 rfl) (own_w hw 63 rfl) eq16 (ty := .long) rfl f7 f10 (fun _ _ => rfl) (fun _ _ => rfl) (i := 0) (j := 0) (k := n) (by decide) (by decide) (by decide) (by decide) ((own_nat32 hn31).2) ((own_nat32 hn31).1) (by omega) (by omega) N16 g_bn (g := (mkF m 28 #[rv asr, iv (Int32.ofNat k), rv bn] [.int (Int32.ofNat n), .int 0, .ref bn, .int 0, .ref asr])) rfl (by rw [hml]; rfl) rfl (hb hby d16_28) (by decide) (W := 0) (by show 2 * 0 + _ ≤ _; exact Nat.le_of_eq rfl) (by decide)
 have f22 := B6.keep K19
 have z23 := Nat.le_trans z8 K19.1
 have k24 := Keep.trans k9 K19 (allS (P := fun x => x ∈ [] ∨ h0.size ≤ x) (Or.inr sz_bn) all0)
 have f25 : own_Av Z h19 bn .long k (fun q => .long (if q < n then gg q else 0)) := B19.congr (fun q hq => by
   by_cases z : q < n
   ·simp [z]
   ·simp [z])
 have st26 := fun t kt => st18 t (ls19 t kt)
 have st27 : own_K p e below T19 m 32 #[rv asr, iv (Int32.ofNat k), rv bn] [.ref bn] B0 := fun t kt => st26 t (by
  refine XS.aloadN X19.here hx rfl (hb hby d16_31) rfl rfl ?_
  exact kt)
 obtain ⟨fs, hr, hrun, hended, hW, hsame⟩ := X19.leave (v := (some (.ref bn))) (fun h => by rw [Bd.returns] at h; cases h)
 subst hB0
 refine ⟨_, _, st27 _ ?_, hrun, hended, _, _, rfl, ?_, ⟨_, rfl⟩, hW, hsame.mono (by decide) (by decide)⟩
 ·exact retOut X19 hx Bd.returns rfl (Or.inr (Or.inr (Or.inr (Or.inr ⟨rfl, rfl, rfl⟩)))) (hb hby d16_32) hr
 ·show Q_rm_cpJ Z asr n gg k h0 n0 _ T19.heap _
  rw [e19]
  exact ⟨bn, rfl, N19, k24, g_bn, sz_bn, f22, f25⟩
set_option maxRecDepth 65536 in
set_option maxHeartbeats 40000000 in
theorem own_loopD {p : Program} {l : Launch} {e : Env} {R : Room} {s : State} {m : MethodId} {args : Array Value} {below : List Frame} {meth : Method} {c : Code} {Z : State} {a0 : Array Value} {n0 : Nat} (ev : Nat) (cap : Nat) (sl : Nat) (ao : Addr) (bp : Addr) (bq : Addr) (pf : Nat → Addr) (uw : Int32) (uc : Int32) (x3 : Int32) (x4 : Int32) (x6 : Int32) (bit : Int64) (cells : Nat) (slots : Nat) (hx : p.tables.exec = Jvm.exec) (hZ : Z.Warmed39 s.vm) (hw : ∀ d ∈ tables_1, d.before a0 Z = true) (hby : c.code = prog_38_method_3_code) (hml : c.maxLocals = 10) (hown : s.vm.findClass "com/example/saturation/saturation/OpenNode" = some m.cls) (hev : ev ≤ 3) (hsl : sl < cap) (hcap : cap ≤ 4) (ne_ao_bq : ao ≠ bq) (ne_bp_bq : bp ≠ bq) (ne_ao_bp : ao ≠ bp) (g_bq : n0 ≤ bq) :
  ∀ (k i : Nat), i + k = ev → ∀ (T0 : State) (locs : List Loc) (h : Heap), Stand p l e R s m args below meth c T0 locs cells slots → T0.heap = h → Fr n0 locs → n0 ≤ h.size → (Exa Z h ao "com/example/saturation/saturation/OpenNode" ∧ Fld Z h ao "com/example/saturation/saturation/OpenNode" "pending" "[[J" (.ref bp) ∧ Fld Z h ao "com/example/saturation/saturation/OpenNode" "pendingCount" "[I" (.ref bq) ∧ own_Ra Z h bp .long "[J" ev (fun q => .ref (pf q)) ∧ own_Pf Z h n0 ev (fun _ => cap) pf ∧ ∃ g : Nat → Int32, own_Av Z h bq .int ev (fun q => .int (g q))) →
   ∃ (T' : State) (locs' : List Loc) (h' : Heap), Stand p l e R s m args below meth c T' locs' cells slots ∧ T'.heap = h' ∧ Fr n0 locs' ∧ n0 ≤ h'.size ∧ (own_Sm (fun x => x = bq ∨ ∃ q, q < ev ∧ x = pf q) h h' ∧ Exa Z h' ao "com/example/saturation/saturation/OpenNode" ∧ Fld Z h' ao "com/example/saturation/saturation/OpenNode" "pending" "[[J" (.ref bp) ∧ Fld Z h' ao "com/example/saturation/saturation/OpenNode" "pendingCount" "[I" (.ref bq) ∧ own_Ra Z h' bp .long "[J" ev (fun q => .ref (pf q)) ∧ own_Pf Z h' n0 ev (fun _ => cap) pf ∧ ∃ g : Nat → Int32, own_Av Z h' bq .int ev (fun q => .int (g q))) ∧ own_Go p e below (T'.setTop (mkF m 149 #[rv ao, iv uw, iv uc, iv x3, iv x4, iv (Int32.ofNat sl), iv x6, .val (.long bit), .second, iv (Int32.ofNat ev)] [])) (T0.setTop (mkF m 89 #[rv ao, iv uw, iv uc, iv x3, iv x4, iv (Int32.ofNat sl), iv x6, .val (.long bit), .second, iv (Int32.ofNat i)] [])) := by
 intro k
 induction k with
 | zero =>
  intro i hi  T0 locs h X0 e0 N0 Z0 inv
  have st0 : own_Go p e below (T0.setTop (mkF m 89 #[rv ao, iv uw, iv uc, iv x3, iv x4, iv (Int32.ofNat sl), iv x6, .val (.long bit), .second, iv (Int32.ofNat i)] [])) (T0.setTop (mkF m 89 #[rv ao, iv uw, iv uc, iv x3, iv x4, iv (Int32.ofNat sl), iv x6, .val (.long bit), .second, iv (Int32.ofNat i)] [])) := fun _ k => k
  obtain ⟨E_ao, F_pe, F_pc, A_bp, H_pf, gq, A_bq⟩ := inv
  have st1 : own_Go p e below (T0.setTop (mkF m 92 #[rv ao, iv uw, iv uc, iv x3, iv x4, iv (Int32.ofNat sl), iv x6, .val (.long bit), .second, iv (Int32.ofNat i)] [.ref ao, .int (Int32.ofNat i)])) (T0.setTop (mkF m 89 #[rv ao, iv uw, iv uc, iv x3, iv x4, iv (Int32.ofNat sl), iv x6, .val (.long bit), .second, iv (Int32.ofNat i)] [])) := fun t kt => st0 t (by
   refine XS.iload X0.here hx rfl (hb hby d5_89) rfl ?_
   refine XS.aloadN X0.here hx rfl (hb hby d5_91) rfl rfl ?_
   exact kt)
  obtain ⟨T2, X2, e2, ls2⟩ := getF X0 hx hZ hown (host := "") (Or.inl (own_w hw 32 rfl)) Via.refl e0 F_pe (g := (mkF m 92 #[rv ao, iv uw, iv uc, iv x3, iv x4, iv (Int32.ofNat sl), iv x6, .val (.long bit), .second, iv (Int32.ofNat i)] [.ref ao, .int (Int32.ofNat i)])) rfl rfl (hb hby d5_92)
  have st3 := fun t kt => st1 t (ls2 t kt)
  have ls4 := own_alen X2 hx hZ e2 A_bp.av (g := (mkF m 95 #[rv ao, iv uw, iv uc, iv x3, iv x4, iv (Int32.ofNat sl), iv x6, .val (.long bit), .second, iv (Int32.ofNat i)] [.ref bp, .int (Int32.ofNat i)])) rfl rfl (hb hby d5_95)
  have st5 := fun t kt => st3 t (ls4 t kt)
  have hc6 : ¬ ((Int32.ofNat i) < (Int32.ofNat ev)) := by rw [own_ltN (by omega) (by omega)]; omega
  have e_i : i = ev := by omega
  have st7 : own_Go p e below (T2.setTop (mkF m 149 #[rv ao, iv uw, iv uc, iv x3, iv x4, iv (Int32.ofNat sl), iv x6, .val (.long bit), .second, iv (Int32.ofNat ev)] [])) (T0.setTop (mkF m 89 #[rv ao, iv uw, iv uc, iv x3, iv x4, iv (Int32.ofNat sl), iv x6, .val (.long bit), .second, iv (Int32.ofNat i)] [])) := fun t kt => st5 t (by
   refine XS.icmpYes X2.here hx rfl (pc0 := 96) (pc' := 149) rfl (hb hby d5_96) rfl (flt hc6).2.1 (by decide) (by decide) ?_
   show own_At p e below T2 m 149 #[rv ao, iv uw, iv uc, iv x3, iv x4, iv (Int32.ofNat sl), iv x6, .val (.long bit), .second, iv (Int32.ofNat i)] [] _
   rw [show (Int32.ofNat i) = (Int32.ofNat ev) from (by rw [e_i])]
   exact kt)
  exact ⟨_, _, _, X2, e2, N0, Z0, ⟨own_Sm.refl, E_ao, F_pe, F_pc, A_bp, H_pf, gq, A_bq⟩, st7⟩
 | succ k ih =>
  intro i hi  T0 locs h X0 e0 N0 Z0 inv
  have st0 : own_Go p e below (T0.setTop (mkF m 89 #[rv ao, iv uw, iv uc, iv x3, iv x4, iv (Int32.ofNat sl), iv x6, .val (.long bit), .second, iv (Int32.ofNat i)] [])) (T0.setTop (mkF m 89 #[rv ao, iv uw, iv uc, iv x3, iv x4, iv (Int32.ofNat sl), iv x6, .val (.long bit), .second, iv (Int32.ofNat i)] [])) := fun _ k => k
  obtain ⟨E_ao, F_pe, F_pc, A_bp, H_pf, gq, A_bq⟩ := inv
  have hiv : i < ev := by omega
  have ii := own_nat32 (show i < 2 ^ 31 by omega)
  have ss := own_nat32 (show sl < 2 ^ 31 by omega)
  have st8 : own_Go p e below (T0.setTop (mkF m 92 #[rv ao, iv uw, iv uc, iv x3, iv x4, iv (Int32.ofNat sl), iv x6, .val (.long bit), .second, iv (Int32.ofNat i)] [.ref ao, .int (Int32.ofNat i)])) (T0.setTop (mkF m 89 #[rv ao, iv uw, iv uc, iv x3, iv x4, iv (Int32.ofNat sl), iv x6, .val (.long bit), .second, iv (Int32.ofNat i)] [])) := fun t kt => st0 t (by
   refine XS.iload X0.here hx rfl (hb hby d5_89) rfl ?_
   refine XS.aloadN X0.here hx rfl (hb hby d5_91) rfl rfl ?_
   exact kt)
  obtain ⟨T9, X9, e9, ls9⟩ := getF X0 hx hZ hown (host := "") (Or.inl (own_w hw 32 rfl)) Via.refl e0 F_pe (g := (mkF m 92 #[rv ao, iv uw, iv uc, iv x3, iv x4, iv (Int32.ofNat sl), iv x6, .val (.long bit), .second, iv (Int32.ofNat i)] [.ref ao, .int (Int32.ofNat i)])) rfl rfl (hb hby d5_92)
  have st10 := fun t kt => st8 t (ls9 t kt)
  have ls11 := own_alen X9 hx hZ e9 A_bp.av (g := (mkF m 95 #[rv ao, iv uw, iv uc, iv x3, iv x4, iv (Int32.ofNat sl), iv x6, .val (.long bit), .second, iv (Int32.ofNat i)] [.ref bp, .int (Int32.ofNat i)])) rfl rfl (hb hby d5_95)
  have st12 := fun t kt => st10 t (ls11 t kt)
  have hc13 : (Int32.ofNat i) < (Int32.ofNat ev) := by rw [own_ltN (by omega) (by omega)]; exact hiv
  have st14 : own_Go p e below (T9.setTop (mkF m 100 #[rv ao, iv uw, iv uc, iv x3, iv x4, iv (Int32.ofNat sl), iv x6, .val (.long bit), .second, iv (Int32.ofNat i)] [.ref ao])) (T0.setTop (mkF m 89 #[rv ao, iv uw, iv uc, iv x3, iv x4, iv (Int32.ofNat sl), iv x6, .val (.long bit), .second, iv (Int32.ofNat i)] [])) := fun t kt => st12 t (by
   refine XS.icmpNo X9.here hx rfl (hb hby d5_96) rfl (tlt hc13).2.1 ?_
   refine XS.aloadN X9.here hx rfl (hb hby d5_99) rfl rfl ?_
   exact kt)
  obtain ⟨T15, X15, e15, ls15⟩ := getF X9 hx hZ hown (host := "") (Or.inl (own_w hw 32 rfl)) Via.refl e9 F_pe (g := (mkF m 100 #[rv ao, iv uw, iv uc, iv x3, iv x4, iv (Int32.ofNat sl), iv x6, .val (.long bit), .second, iv (Int32.ofNat i)] [.ref ao])) rfl rfl (hb hby d5_100)
  have st16 := fun t kt => st14 t (ls15 t kt)
  obtain ⟨b, h_b⟩ : ∃ b, b = pf i := ⟨_, rfl⟩
  obtain ⟨g_b, E_b, fb, A_b⟩ := H_pf i hiv
  rw [← h_b] at g_b E_b A_b
  have ne_ao_b : ao ≠ b := ne_exa E_ao E_b (by decide)
  have ne_bp_b : bp ≠ b := own_ty A_bp.av A_b (by decide)
  have ne_bq_b : bq ≠ b := own_ty A_bq A_b (by decide)
  have st17 : own_Go p e below (T15.setTop (mkF m 105 #[rv ao, iv uw, iv uc, iv x3, iv x4, iv (Int32.ofNat sl), iv x6, .val (.long bit), .second, iv (Int32.ofNat i)] [.int (Int32.ofNat i), .ref bp])) (T0.setTop (mkF m 89 #[rv ao, iv uw, iv uc, iv x3, iv x4, iv (Int32.ofNat sl), iv x6, .val (.long bit), .second, iv (Int32.ofNat i)] [])) := fun t kt => st16 t (by
   refine XS.iload X15.here hx rfl (hb hby d5_103) rfl ?_
   exact kt)
  have ls18 := own_aaload (ty := (.array .long)) rfl X15 hx hZ e15 A_bp.av (j := (Int32.ofNat i)) (i := i) (ii.2) (ii.1) (hiv) (v := (.ref b)) (congrArg Value.ref h_b.symm) (g := (mkF m 105 #[rv ao, iv uw, iv uc, iv x3, iv x4, iv (Int32.ofNat sl), iv x6, .val (.long bit), .second, iv (Int32.ofNat i)] [.int (Int32.ofNat i), .ref bp])) rfl rfl (hb hby d5_105)
  have st19 := fun t kt => st17 t (ls18 t kt)
  have st20 : own_Go p e below (T15.setTop (mkF m 108 #[rv ao, iv uw, iv uc, iv x3, iv x4, iv (Int32.ofNat sl), iv x6, .val (.long bit), .second, iv (Int32.ofNat i)] [.int (Int32.ofNat sl), .ref b])) (T0.setTop (mkF m 89 #[rv ao, iv uw, iv uc, iv x3, iv x4, iv (Int32.ofNat sl), iv x6, .val (.long bit), .second, iv (Int32.ofNat i)] [])) := fun t kt => st19 t (by
   refine XS.iload X15.here hx rfl (hb hby d5_106) rfl ?_
   exact kt)
  have ls21 := own_laload X15 hx hZ e15 A_b (j := (Int32.ofNat sl)) (i := sl) (ss.2) (ss.1) (hsl) (v := (.long (fb sl))) (rfl) (g := (mkF m 108 #[rv ao, iv uw, iv uc, iv x3, iv x4, iv (Int32.ofNat sl), iv x6, .val (.long bit), .second, iv (Int32.ofNat i)] [.int (Int32.ofNat sl), .ref b])) rfl rfl (hb hby d5_108)
  have st22 := fun t kt => st20 t (ls21 t kt)
  have st23 : own_Go p e below (T15.setTop (mkF m 114 #[rv ao, iv uw, iv uc, iv x3, iv x4, iv (Int32.ofNat sl), iv x6, .val (.long bit), .second, iv (Int32.ofNat i)] [(.int (lcmpW ((fb sl) &&& bit) (0 : Int64)))])) (T0.setTop (mkF m 89 #[rv ao, iv uw, iv uc, iv x3, iv x4, iv (Int32.ofNat sl), iv x6, .val (.long bit), .second, iv (Int32.ofNat i)] [])) := fun t kt => st22 t (by
   refine XS.lload X15.here hx rfl (hb hby d5_109) rfl ?_
   refine XS.land X15.here hx rfl (hb hby d5_111) rfl ?_
   refine XS.lconst X15.here hx rfl (hb hby d5_112) ?_
   refine XS.lcmp X15.here hx rfl (hb hby d5_113) rfl ?_
   exact kt)
  by_cases q1 : ((fb sl) &&& bit) = (0 : Int64)
  ·have st24 : own_Go p e below (T15.setTop (mkF m 118 #[rv ao, iv uw, iv uc, iv x3, iv x4, iv (Int32.ofNat sl), iv x6, .val (.long bit), .second, iv (Int32.ofNat i)] [.ref ao])) (T0.setTop (mkF m 89 #[rv ao, iv uw, iv uc, iv x3, iv x4, iv (Int32.ofNat sl), iv x6, .val (.long bit), .second, iv (Int32.ofNat i)] [])) := fun t kt => st23 t (by
    refine XS.ifNo X15.here hx rfl (hb hby d5_114) rfl ((if0 _ _).trans (teq ((lw_eq _ _).mpr q1)).2) ?_
    refine XS.aloadN X15.here hx rfl (hb hby d5_117) rfl rfl ?_
    exact kt)
   obtain ⟨T25, X25, e25, ls25⟩ := getF X15 hx hZ hown (host := "") (Or.inl (own_w hw 32 rfl)) Via.refl e15 F_pe (g := (mkF m 118 #[rv ao, iv uw, iv uc, iv x3, iv x4, iv (Int32.ofNat sl), iv x6, .val (.long bit), .second, iv (Int32.ofNat i)] [.ref ao])) rfl rfl (hb hby d5_118)
   have st26 := fun t kt => st24 t (ls25 t kt)
   have st27 : own_Go p e below (T25.setTop (mkF m 123 #[rv ao, iv uw, iv uc, iv x3, iv x4, iv (Int32.ofNat sl), iv x6, .val (.long bit), .second, iv (Int32.ofNat i)] [.int (Int32.ofNat i), .ref bp])) (T0.setTop (mkF m 89 #[rv ao, iv uw, iv uc, iv x3, iv x4, iv (Int32.ofNat sl), iv x6, .val (.long bit), .second, iv (Int32.ofNat i)] [])) := fun t kt => st26 t (by
    refine XS.iload X25.here hx rfl (hb hby d5_121) rfl ?_
    exact kt)
   have ls28 := own_aaload (ty := (.array .long)) rfl X25 hx hZ e25 A_bp.av (j := (Int32.ofNat i)) (i := i) (ii.2) (ii.1) (hiv) (v := (.ref b)) (congrArg Value.ref h_b.symm) (g := (mkF m 123 #[rv ao, iv uw, iv uc, iv x3, iv x4, iv (Int32.ofNat sl), iv x6, .val (.long bit), .second, iv (Int32.ofNat i)] [.int (Int32.ofNat i), .ref bp])) rfl rfl (hb hby d5_123)
   have st29 := fun t kt => st27 t (ls28 t kt)
   have st30 : own_Go p e below (T25.setTop (mkF m 127 #[rv ao, iv uw, iv uc, iv x3, iv x4, iv (Int32.ofNat sl), iv x6, .val (.long bit), .second, iv (Int32.ofNat i)] [.int (Int32.ofNat sl), .ref b, .int (Int32.ofNat sl), .ref b])) (T0.setTop (mkF m 89 #[rv ao, iv uw, iv uc, iv x3, iv x4, iv (Int32.ofNat sl), iv x6, .val (.long bit), .second, iv (Int32.ofNat i)] [])) := fun t kt => st29 t (by
    refine XS.iload X25.here hx rfl (hb hby d5_124) rfl ?_
    show own_At p e below T25 m 126 #[rv ao, iv uw, iv uc, iv x3, iv x4, iv (Int32.ofNat sl), iv x6, .val (.long bit), .second, iv (Int32.ofNat i)] [.int (Int32.ofNat sl), .ref b] _
    jvm_step X25.here [X25.here.top, hx, (hb hby d5_126), Value.category]
    exact kt)
   have ls31 := own_laload X25 hx hZ e25 A_b (j := (Int32.ofNat sl)) (i := sl) (ss.2) (ss.1) (hsl) (v := (.long (fb sl))) (rfl) (g := (mkF m 127 #[rv ao, iv uw, iv uc, iv x3, iv x4, iv (Int32.ofNat sl), iv x6, .val (.long bit), .second, iv (Int32.ofNat i)] [.int (Int32.ofNat sl), .ref b, .int (Int32.ofNat sl), .ref b])) rfl rfl (hb hby d5_127)
   have st32 := fun t kt => st30 t (ls31 t kt)
   have st33 : own_Go p e below (T25.setTop (mkF m 131 #[rv ao, iv uw, iv uc, iv x3, iv x4, iv (Int32.ofNat sl), iv x6, .val (.long bit), .second, iv (Int32.ofNat i)] [(.long ((fb sl) ||| bit)), .int (Int32.ofNat sl), .ref b])) (T0.setTop (mkF m 89 #[rv ao, iv uw, iv uc, iv x3, iv x4, iv (Int32.ofNat sl), iv x6, .val (.long bit), .second, iv (Int32.ofNat i)] [])) := fun t kt => st32 t (by
    refine XS.lload X25.here hx rfl (hb hby d5_128) rfl ?_
    refine XS.lor X25.here hx rfl (hb hby d5_130) rfl ?_
    exact kt)
   obtain ⟨T34, h34, X34, e34, W34, B34, ls34⟩ := own_lastore X25 hx hZ e25 A_b (j := (Int32.ofNat sl)) (i := sl) (ss.2) (ss.1) (hsl) (g := (mkF m 131 #[rv ao, iv uw, iv uc, iv x3, iv x4, iv (Int32.ofNat sl), iv x6, .val (.long bit), .second, iv (Int32.ofNat i)] [(.long ((fb sl) ||| bit)), .int (Int32.ofNat sl), .ref b])) rfl rfl (hb hby d5_131)
   have N34 := Fr.snoc X34 N0 g_b
   have f35 := E_ao.wr W34
   have f36 := F_pe.other W34 (Or.inl ne_ao_b)
   have f37 := F_pc.other W34 (Or.inl ne_ao_b)
   have f38 := A_bp.other W34 ne_bp_b
   have f39 := A_bq.other W34 ne_bq_b
   have z41 := Nat.le_trans Z0 (Keep.of_wr W34).1
   have st43 := fun t kt => st33 t (ls34 t kt)
   have f44 : own_Pf Z h34 n0 ev (fun _ => cap) pf := fun q hq => ⟨(H_pf q hq).1, (H_pf q hq).2.1.wr W34, (H_pf q hq).2.2.wrL W34⟩
   have st45 : own_Go p e below (T34.setTop (mkF m 133 #[rv ao, iv uw, iv uc, iv x3, iv x4, iv (Int32.ofNat sl), iv x6, .val (.long bit), .second, iv (Int32.ofNat i)] [.ref ao])) (T0.setTop (mkF m 89 #[rv ao, iv uw, iv uc, iv x3, iv x4, iv (Int32.ofNat sl), iv x6, .val (.long bit), .second, iv (Int32.ofNat i)] [])) := fun t kt => st43 t (by
    refine XS.aloadN X34.here hx rfl (hb hby d5_132) rfl rfl ?_
    exact kt)
   obtain ⟨T46, X46, e46, ls46⟩ := getF X34 hx hZ hown (host := "") (Or.inl (own_w hw 34 rfl)) Via.refl e34 f37 (g := (mkF m 133 #[rv ao, iv uw, iv uc, iv x3, iv x4, iv (Int32.ofNat sl), iv x6, .val (.long bit), .second, iv (Int32.ofNat i)] [.ref ao])) rfl rfl (hb hby d5_133)
   have st47 := fun t kt => st45 t (ls46 t kt)
   have st48 : own_Go p e below (T46.setTop (mkF m 139 #[rv ao, iv uw, iv uc, iv x3, iv x4, iv (Int32.ofNat sl), iv x6, .val (.long bit), .second, iv (Int32.ofNat i)] [.int (Int32.ofNat i), .ref bq, .int (Int32.ofNat i), .ref bq])) (T0.setTop (mkF m 89 #[rv ao, iv uw, iv uc, iv x3, iv x4, iv (Int32.ofNat sl), iv x6, .val (.long bit), .second, iv (Int32.ofNat i)] [])) := fun t kt => st47 t (by
    refine XS.iload X46.here hx rfl (hb hby d5_136) rfl ?_
    show own_At p e below T46 m 138 #[rv ao, iv uw, iv uc, iv x3, iv x4, iv (Int32.ofNat sl), iv x6, .val (.long bit), .second, iv (Int32.ofNat i)] [.int (Int32.ofNat i), .ref bq] _
    jvm_step X46.here [X46.here.top, hx, (hb hby d5_138), Value.category]
    exact kt)
   have ls49 := own_iaload X46 hx hZ e46 f39 (j := (Int32.ofNat i)) (i := i) (ii.2) (ii.1) (hiv) (v := (.int (gq i))) (rfl) (g := (mkF m 139 #[rv ao, iv uw, iv uc, iv x3, iv x4, iv (Int32.ofNat sl), iv x6, .val (.long bit), .second, iv (Int32.ofNat i)] [.int (Int32.ofNat i), .ref bq, .int (Int32.ofNat i), .ref bq])) rfl rfl (hb hby d5_139)
   have st50 := fun t kt => st48 t (ls49 t kt)
   have st51 : own_Go p e below (T46.setTop (mkF m 142 #[rv ao, iv uw, iv uc, iv x3, iv x4, iv (Int32.ofNat sl), iv x6, .val (.long bit), .second, iv (Int32.ofNat i)] [(.int ((gq i) + (1 : Int32))), .int (Int32.ofNat i), .ref bq])) (T0.setTop (mkF m 89 #[rv ao, iv uw, iv uc, iv x3, iv x4, iv (Int32.ofNat sl), iv x6, .val (.long bit), .second, iv (Int32.ofNat i)] [])) := fun t kt => st50 t (by
    refine XS.iconst X46.here hx rfl (hb hby d5_140) ?_
    refine XS.iadd X46.here hx rfl (hb hby d5_141) rfl ?_
    exact kt)
   obtain ⟨T52, h52, X52, e52, W52, B52, ls52⟩ := own_iastore X46 hx hZ e46 f39 (j := (Int32.ofNat i)) (i := i) (ii.2) (ii.1) (hiv) (g := (mkF m 142 #[rv ao, iv uw, iv uc, iv x3, iv x4, iv (Int32.ofNat sl), iv x6, .val (.long bit), .second, iv (Int32.ofNat i)] [(.int ((gq i) + (1 : Int32))), .int (Int32.ofNat i), .ref bq])) rfl rfl (hb hby d5_142)
   have N52 := Fr.snoc X52 N34 g_bq
   have f53 := f35.wr W52
   have f54 := f36.other W52 (Or.inl ne_ao_bq)
   have f55 := f37.other W52 (Or.inl ne_ao_bq)
   have f56 := f38.other W52 ne_bp_bq
   have f59 := f44.wrA W52 f39 (by decide)
   have z60 := Nat.le_trans z41 (Keep.of_wr W52).1
   have f61 := B52.congr (g := (fun q => .int (if q = i then gq i + 1 else gq q))) (fun q hq => by by_cases z : q = i <;> simp [z])
   have st62 := fun t kt => st51 t (ls52 t kt)
   have st63 : own_Go p e below (T52.setTop (mkF m 89 #[rv ao, iv uw, iv uc, iv x3, iv x4, iv (Int32.ofNat sl), iv x6, .val (.long bit), .second, iv (Int32.ofNat (i + 1))] [])) (T0.setTop (mkF m 89 #[rv ao, iv uw, iv uc, iv x3, iv x4, iv (Int32.ofNat sl), iv x6, .val (.long bit), .second, iv (Int32.ofNat i)] [])) := fun t kt => st62 t (by
    refine XS.iinc X52.here hx rfl (hb hby d5_143) rfl (l' := #[rv ao, iv uw, iv uc, iv x3, iv x4, iv (Int32.ofNat sl), iv x6, .val (.long bit), .second, iv ((Int32.ofNat i) + (1 : Int32))]) rfl ?_
    refine XS.goto X52.here hx rfl (pc0 := 146) (pc' := 89) rfl (hb hby d5_146) (by decide) (by decide) ?_
    show own_At p e below T52 m 89 #[rv ao, iv uw, iv uc, iv x3, iv x4, iv (Int32.ofNat sl), iv x6, .val (.long bit), .second, iv ((Int32.ofNat i) + (1 : Int32))] [] _
    rw [show ((Int32.ofNat i) + (1 : Int32)) = (Int32.ofNat (i + 1)) from (own_up1 i)]
    exact kt)
   obtain ⟨T64, L64, h64, X64, e64, N64, Z64, P64, st64⟩ := ih (i + 1) (by omega)  _ _ _ X52 e52 N52 z60 (⟨f53, f54, f55, f56, f59, _, f61⟩)
   exact ⟨T64, L64, h64, X64, e64, N64, Z64, ⟨(((own_Sm.refl (P := (fun x => x = bq ∨ ∃ q, q < ev ∧ x = pf q))).wr W34 (Or.inr ⟨i, hiv, h_b⟩)).wr W52 (Or.inl rfl)).trans P64.1, P64.2⟩, fun t kt => st63 t (st64 t kt)⟩
  ·have st65 : own_Go p e below (T15.setTop (mkF m 89 #[rv ao, iv uw, iv uc, iv x3, iv x4, iv (Int32.ofNat sl), iv x6, .val (.long bit), .second, iv (Int32.ofNat (i + 1))] [])) (T0.setTop (mkF m 89 #[rv ao, iv uw, iv uc, iv x3, iv x4, iv (Int32.ofNat sl), iv x6, .val (.long bit), .second, iv (Int32.ofNat i)] [])) := fun t kt => st23 t (by
    refine XS.ifYes X15.here hx rfl (pc0 := 114) (pc' := 143) rfl (hb hby d5_114) rfl ((if0 _ _).trans (feq (fun q => q1 ((lw_eq _ _).mp q))).2) (by decide) (by decide) ?_
    refine XS.iinc X15.here hx rfl (hb hby d5_143) rfl (l' := #[rv ao, iv uw, iv uc, iv x3, iv x4, iv (Int32.ofNat sl), iv x6, .val (.long bit), .second, iv ((Int32.ofNat i) + (1 : Int32))]) rfl ?_
    refine XS.goto X15.here hx rfl (pc0 := 146) (pc' := 89) rfl (hb hby d5_146) (by decide) (by decide) ?_
    show own_At p e below T15 m 89 #[rv ao, iv uw, iv uc, iv x3, iv x4, iv (Int32.ofNat sl), iv x6, .val (.long bit), .second, iv ((Int32.ofNat i) + (1 : Int32))] [] _
    rw [show ((Int32.ofNat i) + (1 : Int32)) = (Int32.ofNat (i + 1)) from (own_up1 i)]
    exact kt)
   obtain ⟨T66, L66, h66, X66, e66, N66, Z66, P66, st66⟩ := ih (i + 1) (by omega)  _ _ _ X15 e15 N0 Z0 (⟨E_ao, F_pe, F_pc, A_bp, H_pf, _, A_bq⟩)
   exact ⟨T66, L66, h66, X66, e66, N66, Z66, ⟨(own_Sm.refl (P := (fun x => x = bq ∨ ∃ q, q < ev ∧ x = pf q))).trans P66.1, P66.2⟩, fun t kt => st65 t (st66 t kt)⟩
set_option maxRecDepth 65536 in
set_option maxHeartbeats 40000000 in
theorem own_loopE {p : Program} {l : Launch} {e : Env} {R : Room} {s : State} {m : MethodId} {args : Array Value} {below : List Frame} {meth : Method} {c : Code} {Z : State} {a0 : Array Value} {n0 : Nat} (ev : Nat) (cap : Nat) (k2 : Nat) (ao : Addr) (bp : Addr) (ukey : Int32) (x2 : Int32) (CB : Nat) (SB : Nat) (hx : p.tables.exec = Jvm.exec) (hZ : Z.Warmed39 s.vm) (hw : ∀ d ∈ tables_1, d.before a0 Z = true) (hby : c.code = prog_38_method_10_code) (hml : c.maxLocals = 5) (hown : s.vm.findClass "com/example/saturation/saturation/OpenNode" = some m.cls) (hev : ev ≤ 3) (hck : cap < k2) (hk2 : k2 ≤ 4) (ne_ao_bp : ao ≠ bp) (g_bp : n0 ≤ bp) (hRc : CB ≤ R.cells) (hRs : SB ≤ R.slots) (hRf : 3 ≤ R.frames) (hRl : 60 ≤ R.locals) :
  ∀ (k i : Nat), i + k = ev → ∀ (cells : Nat) (slots : Nat) (T0 : State) (locs : List Loc) (h : Heap), Stand p l e R s m args below meth c T0 locs cells slots → T0.heap = h → Fr n0 locs → n0 ≤ h.size → (Exa Z h ao "com/example/saturation/saturation/OpenNode" ∧ Fld Z h ao "com/example/saturation/saturation/OpenNode" "pending" "[[J" (.ref bp) ∧ cells + k ≤ CB ∧ slots + 4 * k ≤ SB ∧ ∃ pf : Nat → Addr, own_Ra Z h bp .long "[J" ev (fun q => .ref (pf q)) ∧ own_Pf Z h n0 ev (fun q => if q < i then k2 else cap) pf) →
   ∃ (T' : State) (locs' : List Loc) (h' : Heap), Stand p l e R s m args below meth c T' locs' CB SB ∧ T'.heap = h' ∧ Fr n0 locs' ∧ n0 ≤ h'.size ∧ (own_Sm (fun x => x = bp) h h' ∧ ∃ pf : Nat → Addr, own_Ra Z h' bp .long "[J" ev (fun q => .ref (pf q)) ∧ own_Pf Z h' n0 ev (fun _ => k2) pf) ∧ own_Go p e below (T'.setTop (mkF m 95 #[rv ao, iv ukey, iv x2, iv (Int32.ofNat k2), iv (Int32.ofNat ev)] [])) (T0.setTop (mkF m 61 #[rv ao, iv ukey, iv x2, iv (Int32.ofNat k2), iv (Int32.ofNat i)] [])) := by
 intro k
 induction k with
 | zero =>
  intro i hi cells slots T0 locs h X0 e0 N0 Z0 inv
  have st0 : own_Go p e below (T0.setTop (mkF m 61 #[rv ao, iv ukey, iv x2, iv (Int32.ofNat k2), iv (Int32.ofNat i)] [])) (T0.setTop (mkF m 61 #[rv ao, iv ukey, iv x2, iv (Int32.ofNat k2), iv (Int32.ofNat i)] [])) := fun _ k => k
  obtain ⟨E_ao, F_pe, hcc, hsc, pf, A_bp, H_pf⟩ := inv
  have st1 : own_Go p e below (T0.setTop (mkF m 64 #[rv ao, iv ukey, iv x2, iv (Int32.ofNat k2), iv (Int32.ofNat i)] [.ref ao, .int (Int32.ofNat i)])) (T0.setTop (mkF m 61 #[rv ao, iv ukey, iv x2, iv (Int32.ofNat k2), iv (Int32.ofNat i)] [])) := fun t kt => st0 t (by
   refine XS.iload X0.here hx rfl (hb hby d10_61) rfl ?_
   refine XS.aloadN X0.here hx rfl (hb hby d10_63) rfl rfl ?_
   exact kt)
  obtain ⟨T2, X2, e2, ls2⟩ := getF X0 hx hZ hown (host := "") (Or.inl (own_w hw 32 rfl)) Via.refl e0 F_pe (g := (mkF m 64 #[rv ao, iv ukey, iv x2, iv (Int32.ofNat k2), iv (Int32.ofNat i)] [.ref ao, .int (Int32.ofNat i)])) rfl rfl (hb hby d10_64)
  have st3 := fun t kt => st1 t (ls2 t kt)
  have ls4 := own_alen X2 hx hZ e2 A_bp.av (g := (mkF m 67 #[rv ao, iv ukey, iv x2, iv (Int32.ofNat k2), iv (Int32.ofNat i)] [.ref bp, .int (Int32.ofNat i)])) rfl rfl (hb hby d10_67)
  have st5 := fun t kt => st3 t (ls4 t kt)
  have hc6 : ¬ ((Int32.ofNat i) < (Int32.ofNat ev)) := by rw [own_ltN (by omega) (by omega)]; omega
  have e_i : i = ev := by omega
  have st7 : own_Go p e below (T2.setTop (mkF m 95 #[rv ao, iv ukey, iv x2, iv (Int32.ofNat k2), iv (Int32.ofNat ev)] [])) (T0.setTop (mkF m 61 #[rv ao, iv ukey, iv x2, iv (Int32.ofNat k2), iv (Int32.ofNat i)] [])) := fun t kt => st5 t (by
   refine XS.icmpYes X2.here hx rfl (pc0 := 68) (pc' := 95) rfl (hb hby d10_68) rfl (flt hc6).2.1 (by decide) (by decide) ?_
   show own_At p e below T2 m 95 #[rv ao, iv ukey, iv x2, iv (Int32.ofNat k2), iv (Int32.ofNat i)] [] _
   rw [show (Int32.ofNat i) = (Int32.ofNat ev) from (by rw [e_i])]
   exact kt)
  exact ⟨_, _, _, (X2.more (by omega) (by omega)), e2, N0, Z0, ⟨own_Sm.refl, pf, A_bp, fun q hq => ⟨(H_pf q hq).1, (H_pf q hq).2.1, by have z : own_La Z _ (pf q) (if q < i then k2 else cap) := (H_pf q hq).2.2; rw [if_pos (by omega)] at z; exact z⟩⟩, st7⟩
 | succ k ih =>
  intro i hi cells slots T0 locs h X0 e0 N0 Z0 inv
  have st0 : own_Go p e below (T0.setTop (mkF m 61 #[rv ao, iv ukey, iv x2, iv (Int32.ofNat k2), iv (Int32.ofNat i)] [])) (T0.setTop (mkF m 61 #[rv ao, iv ukey, iv x2, iv (Int32.ofNat k2), iv (Int32.ofNat i)] [])) := fun _ k => k
  obtain ⟨E_ao, F_pe, hcc, hsc, pf, A_bp, H_pf⟩ := inv
  have hiv : i < ev := by omega
  have ii := own_nat32 (show i < 2 ^ 31 by omega)
  have st8 : own_Go p e below (T0.setTop (mkF m 64 #[rv ao, iv ukey, iv x2, iv (Int32.ofNat k2), iv (Int32.ofNat i)] [.ref ao, .int (Int32.ofNat i)])) (T0.setTop (mkF m 61 #[rv ao, iv ukey, iv x2, iv (Int32.ofNat k2), iv (Int32.ofNat i)] [])) := fun t kt => st0 t (by
   refine XS.iload X0.here hx rfl (hb hby d10_61) rfl ?_
   refine XS.aloadN X0.here hx rfl (hb hby d10_63) rfl rfl ?_
   exact kt)
  obtain ⟨T9, X9, e9, ls9⟩ := getF X0 hx hZ hown (host := "") (Or.inl (own_w hw 32 rfl)) Via.refl e0 F_pe (g := (mkF m 64 #[rv ao, iv ukey, iv x2, iv (Int32.ofNat k2), iv (Int32.ofNat i)] [.ref ao, .int (Int32.ofNat i)])) rfl rfl (hb hby d10_64)
  have st10 := fun t kt => st8 t (ls9 t kt)
  have ls11 := own_alen X9 hx hZ e9 A_bp.av (g := (mkF m 67 #[rv ao, iv ukey, iv x2, iv (Int32.ofNat k2), iv (Int32.ofNat i)] [.ref bp, .int (Int32.ofNat i)])) rfl rfl (hb hby d10_67)
  have st12 := fun t kt => st10 t (ls11 t kt)
  have hc13 : (Int32.ofNat i) < (Int32.ofNat ev) := by rw [own_ltN (by omega) (by omega)]; exact hiv
  have st14 : own_Go p e below (T9.setTop (mkF m 72 #[rv ao, iv ukey, iv x2, iv (Int32.ofNat k2), iv (Int32.ofNat i)] [.ref ao])) (T0.setTop (mkF m 61 #[rv ao, iv ukey, iv x2, iv (Int32.ofNat k2), iv (Int32.ofNat i)] [])) := fun t kt => st12 t (by
   refine XS.icmpNo X9.here hx rfl (hb hby d10_68) rfl (tlt hc13).2.1 ?_
   refine XS.aloadN X9.here hx rfl (hb hby d10_71) rfl rfl ?_
   exact kt)
  obtain ⟨T15, X15, e15, ls15⟩ := getF X9 hx hZ hown (host := "") (Or.inl (own_w hw 32 rfl)) Via.refl e9 F_pe (g := (mkF m 72 #[rv ao, iv ukey, iv x2, iv (Int32.ofNat k2), iv (Int32.ofNat i)] [.ref ao])) rfl rfl (hb hby d10_72)
  have st16 := fun t kt => st14 t (ls15 t kt)
  have st17 : own_Go p e below (T15.setTop (mkF m 78 #[rv ao, iv ukey, iv x2, iv (Int32.ofNat k2), iv (Int32.ofNat i)] [.ref ao, .int (Int32.ofNat i), .ref bp])) (T0.setTop (mkF m 61 #[rv ao, iv ukey, iv x2, iv (Int32.ofNat k2), iv (Int32.ofNat i)] [])) := fun t kt => st16 t (by
   refine XS.iload X15.here hx rfl (hb hby d10_75) rfl ?_
   refine XS.aloadN X15.here hx rfl (hb hby d10_77) rfl rfl ?_
   exact kt)
  obtain ⟨T18, X18, e18, ls18⟩ := getF X15 hx hZ hown (host := "") (Or.inl (own_w hw 32 rfl)) Via.refl e15 F_pe (g := (mkF m 78 #[rv ao, iv ukey, iv x2, iv (Int32.ofNat k2), iv (Int32.ofNat i)] [.ref ao, .int (Int32.ofNat i), .ref bp])) rfl rfl (hb hby d10_78)
  have st19 := fun t kt => st17 t (ls18 t kt)
  obtain ⟨b, h_b⟩ : ∃ b, b = pf i := ⟨_, rfl⟩
  obtain ⟨g_b, E_b, fb, A_b⟩ := H_pf i hiv
  simp only [Nat.lt_irrefl, if_false] at A_b
  rw [← h_b] at g_b E_b A_b
  have st20 : own_Go p e below (T18.setTop (mkF m 83 #[rv ao, iv ukey, iv x2, iv (Int32.ofNat k2), iv (Int32.ofNat i)] [.int (Int32.ofNat i), .ref bp, .int (Int32.ofNat i), .ref bp])) (T0.setTop (mkF m 61 #[rv ao, iv ukey, iv x2, iv (Int32.ofNat k2), iv (Int32.ofNat i)] [])) := fun t kt => st19 t (by
   refine XS.iload X18.here hx rfl (hb hby d10_81) rfl ?_
   exact kt)
  have ls21 := own_aaload (ty := (.array .long)) rfl X18 hx hZ e18 A_bp.av (j := (Int32.ofNat i)) (i := i) (ii.2) (ii.1) (hiv) (v := (.ref b)) (congrArg Value.ref h_b.symm) (g := (mkF m 83 #[rv ao, iv ukey, iv x2, iv (Int32.ofNat k2), iv (Int32.ofNat i)] [.int (Int32.ofNat i), .ref bp, .int (Int32.ofNat i), .ref bp])) rfl rfl (hb hby d10_83)
  have st22 := fun t kt => st20 t (ls21 t kt)
  have st23 : own_Go p e below (T18.setTop (mkF m 85 #[rv ao, iv ukey, iv x2, iv (Int32.ofNat k2), iv (Int32.ofNat i)] [.int (Int32.ofNat k2), .ref b, .int (Int32.ofNat i), .ref bp])) (T0.setTop (mkF m 61 #[rv ao, iv ukey, iv x2, iv (Int32.ofNat k2), iv (Int32.ofNat i)] [])) := fun t kt => st22 t (by
   refine XS.iloadN X18.here hx rfl (hb hby d10_84) rfl ?_
   exact kt)
  have lt24_ao := E_ao.lt
  have lt24_bp := A_bp.lt
  have lt24_b := A_b.lt
  obtain ⟨_, _, ⟨T24, L24, k24, n24⟩, -, X24, ⟨Lc24, hQ24, l24, y24, z24⟩, ls24⟩ := Jvm.LawKit.callS X18 hx (y := (⟨"java/util/Arrays", "copyOf", "([JI)[J"⟩ : MethodName)) hown (mvT hZ (own_w hw 94 rfl)) (mvT hZ (own_w hw 95 rfl)) (mvT hZ (own_w hw 49 rfl)) (mvT hZ (own_w hw 96 rfl)) (by decide) (backOf (W := 2) (rm_cpJ l Z a0 hw [] b cap fb k2 h n0 Z0 A_b hck hk2) hZ (own_w hw 96 rfl) (own_w hw 49 rfl) (Nat.le_trans (by decide) hRf) (Nat.le_trans (by decide) hRl)) (g := (mkF m 85 #[rv ao, iv ukey, iv x2, iv (Int32.ofNat k2), iv (Int32.ofNat i)] [.int (Int32.ofNat k2), .ref b, .int (Int32.ofNat i), .ref bp])) rfl (by rw [hml]; rfl) (argsL := [.ref b, .int (Int32.ofNat k2)]) (rest := [.int (Int32.ofNat i), .ref bp]) (lenOf own_pd1 rfl) rfl (by show 2 * 0 + _ ≤ _; exact Nat.le_of_eq rfl) (hb hby d10_85) (fun _ _ => ⟨rfl, e18, (Nat.le_trans (by omega : cells + 1 ≤ CB) hRc), (Nat.le_trans (by omega : slots + 4 ≤ SB) hRs)⟩)
  dsimp only [Pt.U, Pt.locs, Pt.cells, Pt.slots] at X24 l24 y24 z24 ls24 hQ24
  subst l24 y24 z24
  obtain ⟨bq24, rfl, Nq24, Kq24, g_bq24, sq24, Eq24, Aq24⟩ := hQ24
  have N24 := Fr.app N0 Nq24
  have f25 := E_ao.keep Kq24
  have f26 := F_pe.keep Kq24 nin0
  have f27 := A_bp.keep Kq24 nin0
  have f28 := H_pf.keep0 Kq24
  have z31 := Nat.le_trans Z0 Kq24.1
  have ne_bp_bq24 : bp ≠ bq24 := Nat.ne_of_lt (Nat.lt_of_lt_of_le lt24_bp sq24)
  have st32 := fun t kt => st23 t (ls24 t kt)
  obtain ⟨T33, h33, X33, e33, W33, B33, ls33⟩ := own_aastore X24 hx hZ rfl f27 Eq24 (j := (Int32.ofNat i)) (i := i) (ii.2) (ii.1) (hiv) (g := (mkF m 88 #[rv ao, iv ukey, iv x2, iv (Int32.ofNat k2), iv (Int32.ofNat i)] [.ref bq24, .int (Int32.ofNat i), .ref bp])) rfl rfl (hb hby d10_88)
  have N33 := Fr.snoc X33 N24 g_bp
  have f34 := f25.wr W33
  have f35 := f26.other W33 (Or.inl ne_ao_bp)
  have f36 := f28.wrA W33 f27.av (by decide)
  have f39 := Aq24.other W33 (Ne.symm ne_bp_bq24)
  have f40 := Eq24.wr W33
  have z41 := Nat.le_trans z31 (Keep.of_wr W33).1
  have f42 := B33.congr (g := (fun q => .ref ((fun q => if q = i then bq24 else pf q) q))) (fun q hq => by by_cases z : q = i <;> simp [z])
  have st43 := fun t kt => st32 t (ls33 t kt)
  have Pn : own_Pf Z h33 n0 ev (fun q => if q < i + 1 then k2 else cap) (fun q => if q = i then bq24 else pf q) := fun q hq => by
   by_cases z : q = i
   ·subst z
    simp only [if_true, Nat.lt_succ_self]
    exact ⟨g_bq24, f40, _, f39⟩
   ·have e1 : (q < i + 1) ↔ (q < i) := by omega
    simp only [if_neg z, e1]
    exact f36 q hq
  have st44 : own_Go p e below (T33.setTop (mkF m 61 #[rv ao, iv ukey, iv x2, iv (Int32.ofNat k2), iv (Int32.ofNat (i + 1))] [])) (T0.setTop (mkF m 61 #[rv ao, iv ukey, iv x2, iv (Int32.ofNat k2), iv (Int32.ofNat i)] [])) := fun t kt => st43 t (by
   refine XS.iinc X33.here hx rfl (hb hby d10_89) rfl (l' := #[rv ao, iv ukey, iv x2, iv (Int32.ofNat k2), iv ((Int32.ofNat i) + (1 : Int32))]) rfl ?_
   refine XS.goto X33.here hx rfl (pc0 := 92) (pc' := 61) rfl (hb hby d10_92) (by decide) (by decide) ?_
   show own_At p e below T33 m 61 #[rv ao, iv ukey, iv x2, iv (Int32.ofNat k2), iv ((Int32.ofNat i) + (1 : Int32))] [] _
   rw [show ((Int32.ofNat i) + (1 : Int32)) = (Int32.ofNat (i + 1)) from (own_up1 i)]
   exact kt)
  obtain ⟨T45, L45, h45, X45, e45, N45, Z45, P45, st45⟩ := ih (i + 1) (by omega) _ _ _ _ _ X33 e33 N33 z41 (⟨f34, f35, by omega, by omega, _, f42, Pn⟩)
  exact ⟨T45, L45, h45, X45, e45, N45, Z45, ⟨((own_Sm.refl (P := fun x => x = bp)).keep Kq24 all0 |>.wr W33 rfl).trans P45.1, P45.2⟩, fun t kt => st44 t (st45 t kt)⟩
def Q_rm_insert (Z : State) (ao : Addr) (ukey : Int32) (nb : Nat) (cap : Nat) (K : Nat → Int32) (S : Nat → Nat) (Ch : Nat → Int32) (ct : Int32) (lk : Int32) (ev : Nat) (pos : Nat) (h0 : Heap) (n0 : Nat) (v : Option Value) (h : Heap) (L : List Loc) : Prop := v = some (.int (Int32.ofNat pos)) ∧ Fr n0 L ∧ n0 ≤ h.size ∧ own_Sm (fun x => n0 ≤ x) h0 h ∧ ∃ (cap' : Nat) (K' : Nat → Int32) (S' : Nat → Nat) (Ch' : Nat → Int32) (lk' : Int32), nb + 1 ≤ cap' ∧ cap' ≤ 4 ∧ own_N Z h n0 ao (nb + 1) cap' K' S' Ch' ct lk' ev ∧ own_Ins nb pos cap' ukey K S Ch K' S' Ch'
set_option maxRecDepth 65536 in
set_option maxHeartbeats 40000000 in
theorem rm_insert (l : Launch) (Z : State) (a0 : Array Value) (hw : ∀ d ∈ tables_1, d.before a0 Z = true) (ws : List Jvm.Cond) (ao : Addr) (ukey : Int32) (nb : Nat) (cap : Nat) (K : Nat → Int32) (S : Nat → Nat) (Ch : Nat → Int32) (ct : Int32) (lk : Int32) (ev : Nat) (pos : Nat) (h0 : Heap) (n0 : Nat) (Z0 : n0 ≤ h0.size) (Nn : own_N Z h0 n0 ao nb cap K S Ch ct lk ev) (hpos : pos ≤ nb) (hnb : nb ≤ cap) (hc1 : 1 ≤ cap) (hc2 : cap ≤ 2) (hev : ev ≤ 3) (hz : ∀ x, 64 * nb ≤ x → x < 64 * cap → Ch x = 0) :
  MetFree l (⟨"com/example/saturation/saturation/OpenNode", "insert", "(II)I"⟩ : MethodName) (head1 (Jvm.Cond.code (⟨"com/example/saturation/saturation/OpenNode", "insert", "(II)I"⟩ : MethodName) prog_38_method_10_code 5 (some .int) :: ws) ({ frames := 3, cells := 6, slots := 276, locals := 60 } : Room)) (fun a U => a = #[.ref ao, .int ukey, .int (Int32.ofNat pos)] ∧ Z.Warmed39 U.vm ∧ U.heap = h0) (fun _ _ _ _ _ => True) (fun _ U o U' => ∃ v L, o = .returned v ∧ Q_rm_insert Z ao ukey nb cap K S Ch ct lk ev pos h0 n0 v U'.heap L ∧ FrameEnd U o U' L ({ frames := 3, cells := 6, slots := 276, locals := 60 } : Room).cells ({ frames := 3, cells := 6, slots := 276, locals := 60 } : Room).slots) := by
 refine MetFree.of_bodySF (plainFor_of_name own_pn1) hisR ?_
 intro p e s m args below meth c s₁ Bd hml0 hP hK
 obtain ⟨rfl, hZ, hh⟩ := hP
 have hx := Bd.exec
 have hby := Bd.bytes
 have hml : c.maxLocals = 5 := hml0
 have hown : s.vm.findClass "com/example/saturation/saturation/OpenNode" = some m.cls := findClass_of_methodNamed Bd.named
 have hnm := (name_of_methodNamed Bd.named Bd.method).1
 have X0 : Stand p l e ({ frames := 3, cells := 6, slots := 276, locals := 60 } : Room) s m #[.ref ao, .int ukey, .int (Int32.ofNat pos)] below meth c s₁ [] 0 0 := Stand.of_body Bd
 have e0 : s₁.heap = h0 := by rw [← hh, Bd.state]; rfl
 have N0 := Fr.nil n0
 obtain ⟨B0, hB0⟩ : ∃ B, B = (s₁.setTop (entryFrame m #[.ref ao, .int ukey, .int (Int32.ofNat pos)] 5)) := ⟨_, rfl⟩
 have st0 : own_K p e below s₁ m 0 #[rv ao, iv ukey, iv (Int32.ofNat pos), .unset, .unset] [] B0 := fun t kk0 => hB0 ▸ castTop (own_ef10_RII m ao ukey (Int32.ofNat pos)) kk0
 obtain ⟨E_ao, F_bl, F_ct, F_lk, ⟨lp, F_lp⟩, bk, bl, bc, bp, bq, hge, nd, F_ke, F_sl, F_ch, F_pe, F_pc, A_bk, A_bl, A_bc, ⟨pf, A_bp, H_pf⟩, gq, A_bq⟩ := Nn
 have g_ao := hge ao (List.mem_of_getElem? (i := 0) rfl)
 have ne_ao_bk := own_nd nd 0 1 rfl rfl (by decide)
 have ne_ao_bl := own_nd nd 0 2 rfl rfl (by decide)
 have ne_ao_bc := own_nd nd 0 3 rfl rfl (by decide)
 have ne_ao_bp := own_nd nd 0 4 rfl rfl (by decide)
 have ne_ao_bq := own_nd nd 0 5 rfl rfl (by decide)
 have g_bk := hge bk (List.mem_of_getElem? (i := 1) rfl)
 have ne_bk_bl := own_nd nd 1 2 rfl rfl (by decide)
 have ne_bk_bc := own_nd nd 1 3 rfl rfl (by decide)
 have ne_bk_bp := own_nd nd 1 4 rfl rfl (by decide)
 have ne_bk_bq := own_nd nd 1 5 rfl rfl (by decide)
 have g_bl := hge bl (List.mem_of_getElem? (i := 2) rfl)
 have ne_bl_bc := own_nd nd 2 3 rfl rfl (by decide)
 have ne_bl_bp := own_nd nd 2 4 rfl rfl (by decide)
 have ne_bl_bq := own_nd nd 2 5 rfl rfl (by decide)
 have g_bc := hge bc (List.mem_of_getElem? (i := 3) rfl)
 have ne_bc_bp := own_nd nd 3 4 rfl rfl (by decide)
 have ne_bc_bq := own_nd nd 3 5 rfl rfl (by decide)
 have g_bp := hge bp (List.mem_of_getElem? (i := 4) rfl)
 have ne_bp_bq := own_nd nd 4 5 rfl rfl (by decide)
 have g_bq := hge bq (List.mem_of_getElem? (i := 5) rfl)
 have S0 : own_Sm (fun x => n0 ≤ x) h0 h0 := own_Sm.refl
 have pp := own_nat32 (show pos < 2 ^ 31 by omega)
 have st1 : own_K p e below s₁ m 1 #[rv ao, iv ukey, iv (Int32.ofNat pos), .unset, .unset] [.ref ao] B0 := fun t kt => st0 t (by
  refine XS.aloadN X0.here hx rfl (hb hby d10_0) rfl rfl ?_
  exact kt)
 obtain ⟨T2, X2, e2, ls2⟩ := getF X0 hx hZ hown (host := "") (Or.inl (own_w hw 45 rfl)) Via.refl e0 F_bl (g := (mkF m 1 #[rv ao, iv ukey, iv (Int32.ofNat pos), .unset, .unset] [.ref ao])) rfl rfl (hb hby d10_1)
 have st3 := fun t kt => st1 t (ls2 t kt)
 have st4 : own_K p e below T2 m 5 #[rv ao, iv ukey, iv (Int32.ofNat pos), .unset, .unset] [.ref ao, .int (Int32.ofNat nb)] B0 := fun t kt => st3 t (by
  refine XS.aloadN X2.here hx rfl (hb hby d10_4) rfl rfl ?_
  exact kt)
 obtain ⟨T5, X5, e5, ls5⟩ := getF X2 hx hZ hown (host := "") (Or.inl (own_w hw 21 rfl)) Via.refl e2 F_ke (g := (mkF m 5 #[rv ao, iv ukey, iv (Int32.ofNat pos), .unset, .unset] [.ref ao, .int (Int32.ofNat nb)])) rfl rfl (hb hby d10_5)
 have st6 := fun t kt => st4 t (ls5 t kt)
 have ls7 := own_alen X5 hx hZ e5 A_bk (g := (mkF m 8 #[rv ao, iv ukey, iv (Int32.ofNat pos), .unset, .unset] [.ref bk, .int (Int32.ofNat nb)])) rfl rfl (hb hby d10_8)
 have st8 := fun t kt => st6 t (ls7 t kt)
 by_cases q1 : (Int32.ofNat nb) = (Int32.ofNat cap)
 ·have e_nc : nb = cap := by
   have e1 := own_nat32 (show nb < 2 ^ 31 by omega)
   have e2 := own_nat32 (show cap < 2 ^ 31 by omega)
   rw [← e1.1, ← e2.1, q1]
  have st9 : own_K p e below T5 m 14 #[rv ao, iv ukey, iv (Int32.ofNat pos), .unset, .unset] [.ref ao, .int 2] B0 := fun t kt => st8 t (by
   refine XS.icmpNo X5.here hx rfl (hb hby d10_9) rfl (teq q1).2 ?_
   refine XS.iconst X5.here hx rfl (hb hby d10_12) ?_
   refine XS.aloadN X5.here hx rfl (hb hby d10_13) rfl rfl ?_
   exact kt)
  obtain ⟨T10, X10, e10, ls10⟩ := getF X5 hx hZ hown (host := "") (Or.inl (own_w hw 45 rfl)) Via.refl e5 F_bl (g := (mkF m 14 #[rv ao, iv ukey, iv (Int32.ofNat pos), .unset, .unset] [.ref ao, .int 2])) rfl rfl (hb hby d10_14)
  have st11 := fun t kt => st9 t (ls10 t kt)
  have st12 : own_K p e below T10 m 21 #[rv ao, iv ukey, iv (Int32.ofNat pos), iv (Int32.ofNat (2 * cap)), .unset] [.ref ao, .ref ao] B0 := fun t kt => st11 t (by
   refine XS.imul X10.here hx rfl (hb hby d10_17) rfl ?_
   show own_At p e below T10 m 18 #[rv ao, iv ukey, iv (Int32.ofNat pos), .unset, .unset] [(.int ((2 : Int32) * (Int32.ofNat nb)))] _
   rw [show ((2 : Int32) * (Int32.ofNat nb)) = (Int32.ofNat (2 * cap)) from (by rw [e_nc]; exact own_mul2 cap)]
   refine XS.istoreN X10.here hx rfl (hb hby d10_18) rfl (l' := #[rv ao, iv ukey, iv (Int32.ofNat pos), iv (Int32.ofNat (2 * cap)), .unset]) rfl ?_
   refine XS.aloadN X10.here hx rfl (hb hby d10_19) rfl rfl ?_
   refine XS.aloadN X10.here hx rfl (hb hby d10_20) rfl rfl ?_
   exact kt)
  obtain ⟨T13, X13, e13, ls13⟩ := getF X10 hx hZ hown (host := "") (Or.inl (own_w hw 21 rfl)) Via.refl e10 F_ke (g := (mkF m 21 #[rv ao, iv ukey, iv (Int32.ofNat pos), iv (Int32.ofNat (2 * cap)), .unset] [.ref ao, .ref ao])) rfl rfl (hb hby d10_21)
  have st14 := fun t kt => st12 t (ls13 t kt)
  have st15 : own_K p e below T13 m 25 #[rv ao, iv ukey, iv (Int32.ofNat pos), iv (Int32.ofNat (2 * cap)), .unset] [(.int (Int32.ofNat (2 * cap))), .ref bk, .ref ao] B0 := fun t kt => st14 t (by
   refine XS.iloadN X13.here hx rfl (hb hby d10_24) rfl ?_
   exact kt)
  have lt16_ao := E_ao.lt
  have lt16_bk := A_bk.lt
  have lt16_bl := A_bl.lt
  have lt16_bc := A_bc.lt
  have lt16_bp := A_bp.lt
  have lt16_bq := A_bq.lt
  obtain ⟨_, _, ⟨T16, L16, k16, n16⟩, -, X16, ⟨Lc16, hQ16, l16, y16, z16⟩, ls16⟩ := Jvm.LawKit.callS X13 hx (y := (⟨"java/util/Arrays", "copyOf", "([II)[I"⟩ : MethodName)) hown (mvT hZ (own_w hw 86 rfl)) (mvT hZ (own_w hw 87 rfl)) (mvT hZ (own_w hw 49 rfl)) (mvT hZ (own_w hw 88 rfl)) (by decide) (backOf (W := 1) (rm_cpS l Z a0 hw [] bk cap K ((2 * cap)) h0 n0 Z0 A_bk (by omega) (by omega)) hZ (own_w hw 88 rfl) (own_w hw 49 rfl) (by decide) (by decide)) (g := (mkF m 25 #[rv ao, iv ukey, iv (Int32.ofNat pos), iv (Int32.ofNat (2 * cap)), .unset] [(.int (Int32.ofNat (2 * cap))), .ref bk, .ref ao])) rfl (by rw [hml]; rfl) (argsL := [.ref bk, (.int (Int32.ofNat (2 * cap)))]) (rest := [.ref ao]) (lenOf own_pd2 rfl) rfl (by show 2 * 0 + _ ≤ _; exact Nat.le_of_eq rfl) (hb hby d10_25) (fun _ _ => ⟨rfl, e13, (by decide : 0 + 1 ≤ _), (by decide : 0 + 4 ≤ _)⟩)
  dsimp only [Pt.U, Pt.locs, Pt.cells, Pt.slots] at X16 l16 y16 z16 ls16 hQ16
  subst l16 y16 z16
  obtain ⟨bq16, rfl, Nq16, Kq16, g_bq16, sq16, Aq16⟩ := hQ16
  have N16 := Fr.app N0 Nq16
  have f17 := E_ao.keep Kq16
  have f18 := F_bl.keep Kq16 nin0
  have f19 := F_ct.keep Kq16 nin0
  have f20 := F_lk.keep Kq16 nin0
  have f21 := F_lp.keep Kq16 nin0
  have f22 := F_ke.keep Kq16 nin0
  have f23 := F_sl.keep Kq16 nin0
  have f24 := F_ch.keep Kq16 nin0
  have f25 := F_pe.keep Kq16 nin0
  have f26 := F_pc.keep Kq16 nin0
  have f27 := A_bk.keep Kq16 nin0
  have f28 := A_bl.keep Kq16 nin0
  have f29 := A_bc.keep Kq16 nin0
  have f30 := A_bp.keep Kq16 nin0
  have f31 := A_bq.keep Kq16 nin0
  have f32 := H_pf.keep0 Kq16
  have f33 := S0.keep Kq16 all0
  have z34 := Nat.le_trans Z0 Kq16.1
  have ne_ao_bq16 : ao ≠ bq16 := Nat.ne_of_lt (Nat.lt_of_lt_of_le lt16_ao sq16)
  have ne_bp_bq16 : bp ≠ bq16 := Nat.ne_of_lt (Nat.lt_of_lt_of_le lt16_bp sq16)
  have ne_bq_bq16 : bq ≠ bq16 := Nat.ne_of_lt (Nat.lt_of_lt_of_le lt16_bq sq16)
  have st35 := fun t kt => st15 t (ls16 t kt)
  obtain ⟨T36, h36, X36, e36, W36, ls36⟩ := putF X16 hx hZ hown (host := "") (Or.inl (own_w hw 21 rfl)) Via.refl rfl f22 f17 (Or.inl (own_w hw 22 rfl)) (own_w hw 11 rfl) (ty := (.array .int)) (by decide) rfl rfl (g := (mkF m 28 #[rv ao, iv ukey, iv (Int32.ofNat pos), iv (Int32.ofNat (2 * cap)), .unset] [.ref bq16, .ref ao])) rfl rfl (hb hby d10_28)
  have N36 := Fr.snoc X36 N16 g_ao
  have f37 := f17.wr W36
  have f38 := f18.other W36 (Or.inr (own_s46_22 hw))
  have f39 := f19.other W36 (Or.inr (own_s29_22 hw))
  have f40 := f20.other W36 (Or.inr (own_s20_22 hw))
  have f41 := f21.other W36 (Or.inr (own_s66_22 hw))
  have f42 := f22.same W36
  have f43 := f23.other W36 (Or.inr (own_s24_22 hw))
  have f44 := f24.other W36 (Or.inr (own_s26_22 hw))
  have f45 := f25.other W36 (Or.inr (own_s33_22 hw))
  have f46 := f26.other W36 (Or.inr (own_s35_22 hw))
  have f47 := f27.other W36 (Ne.symm ne_ao_bk)
  have f48 := f28.other W36 (Ne.symm ne_ao_bl)
  have f49 := f29.other W36 (Ne.symm ne_ao_bc)
  have f50 := f30.other W36 (Ne.symm ne_ao_bp)
  have f51 := f31.other W36 (Ne.symm ne_ao_bq)
  have f52 := f32.wrO W36 f17 (by decide)
  have f53 := f33.wr W36 g_ao
  have f54 := Aq16.other W36 (Ne.symm ne_ao_bq16)
  have z55 := Nat.le_trans z34 (Keep.of_wr W36).1
  have st56 := fun t kt => st35 t (ls36 t kt)
  have st57 : own_K p e below T36 m 33 #[rv ao, iv ukey, iv (Int32.ofNat pos), iv (Int32.ofNat (2 * cap)), .unset] [.ref ao, .ref ao] B0 := fun t kt => st56 t (by
   refine XS.aloadN X36.here hx rfl (hb hby d10_31) rfl rfl ?_
   refine XS.aloadN X36.here hx rfl (hb hby d10_32) rfl rfl ?_
   exact kt)
  obtain ⟨T58, X58, e58, ls58⟩ := getF X36 hx hZ hown (host := "") (Or.inl (own_w hw 23 rfl)) Via.refl e36 f43 (g := (mkF m 33 #[rv ao, iv ukey, iv (Int32.ofNat pos), iv (Int32.ofNat (2 * cap)), .unset] [.ref ao, .ref ao])) rfl rfl (hb hby d10_33)
  have st59 := fun t kt => st57 t (ls58 t kt)
  have st60 : own_K p e below T58 m 37 #[rv ao, iv ukey, iv (Int32.ofNat pos), iv (Int32.ofNat (2 * cap)), .unset] [(.int (Int32.ofNat (2 * cap))), .ref bl, .ref ao] B0 := fun t kt => st59 t (by
   refine XS.iloadN X58.here hx rfl (hb hby d10_36) rfl ?_
   exact kt)
  have lt61_ao := f37.lt
  have lt61_bk := f47.lt
  have lt61_bl := f48.lt
  have lt61_bc := f49.lt
  have lt61_bp := f50.lt
  have lt61_bq := f51.lt
  have lt61_bq16 := f54.lt
  obtain ⟨_, _, ⟨T61, L61, k61, n61⟩, -, X61, ⟨Lc61, hQ61, l61, y61, z61⟩, ls61⟩ := Jvm.LawKit.callS X58 hx (y := (⟨"java/util/Arrays", "copyOf", "([II)[I"⟩ : MethodName)) hown (mvT hZ (own_w hw 86 rfl)) (mvT hZ (own_w hw 87 rfl)) (mvT hZ (own_w hw 49 rfl)) (mvT hZ (own_w hw 88 rfl)) (by decide) (backOf (W := 1) (rm_cpS l Z a0 hw [] bl cap ((fun q => Int32.ofNat (S q))) ((2 * cap)) h36 n0 z55 f48 (by omega) (by omega)) hZ (own_w hw 88 rfl) (own_w hw 49 rfl) (by decide) (by decide)) (g := (mkF m 37 #[rv ao, iv ukey, iv (Int32.ofNat pos), iv (Int32.ofNat (2 * cap)), .unset] [(.int (Int32.ofNat (2 * cap))), .ref bl, .ref ao])) rfl (by rw [hml]; rfl) (argsL := [.ref bl, (.int (Int32.ofNat (2 * cap)))]) (rest := [.ref ao]) (lenOf own_pd2 rfl) rfl (by show 2 * 0 + _ ≤ _; exact Nat.le_of_eq rfl) (hb hby d10_37) (fun _ _ => ⟨rfl, e58, (by decide : 1 + 1 ≤ _), (by decide : 4 + 4 ≤ _)⟩)
  dsimp only [Pt.U, Pt.locs, Pt.cells, Pt.slots] at X61 l61 y61 z61 ls61 hQ61
  subst l61 y61 z61
  obtain ⟨bq61, rfl, Nq61, Kq61, g_bq61, sq61, Aq61⟩ := hQ61
  have N61 := Fr.app N36 Nq61
  have f62 := f37.keep Kq61
  have f63 := f38.keep Kq61 nin0
  have f64 := f39.keep Kq61 nin0
  have f65 := f40.keep Kq61 nin0
  have f66 := f41.keep Kq61 nin0
  have f67 := f42.keep Kq61 nin0
  have f68 := f43.keep Kq61 nin0
  have f69 := f44.keep Kq61 nin0
  have f70 := f45.keep Kq61 nin0
  have f71 := f46.keep Kq61 nin0
  have f72 := f47.keep Kq61 nin0
  have f73 := f48.keep Kq61 nin0
  have f74 := f49.keep Kq61 nin0
  have f75 := f50.keep Kq61 nin0
  have f76 := f51.keep Kq61 nin0
  have f77 := f52.keep0 Kq61
  have f78 := f53.keep Kq61 all0
  have f79 := f54.keep Kq61 nin0
  have z80 := Nat.le_trans z55 Kq61.1
  have ne_ao_bq61 : ao ≠ bq61 := Nat.ne_of_lt (Nat.lt_of_lt_of_le lt61_ao sq61)
  have ne_bp_bq61 : bp ≠ bq61 := Nat.ne_of_lt (Nat.lt_of_lt_of_le lt61_bp sq61)
  have ne_bq_bq61 : bq ≠ bq61 := Nat.ne_of_lt (Nat.lt_of_lt_of_le lt61_bq sq61)
  have ne_bq16_bq61 : bq16 ≠ bq61 := Nat.ne_of_lt (Nat.lt_of_lt_of_le lt61_bq16 sq61)
  have st81 := fun t kt => st60 t (ls61 t kt)
  obtain ⟨T82, h82, X82, e82, W82, ls82⟩ := putF X61 hx hZ hown (host := "") (Or.inl (own_w hw 23 rfl)) Via.refl rfl f68 f62 (Or.inl (own_w hw 24 rfl)) (own_w hw 11 rfl) (ty := (.array .int)) (by decide) rfl rfl (g := (mkF m 40 #[rv ao, iv ukey, iv (Int32.ofNat pos), iv (Int32.ofNat (2 * cap)), .unset] [.ref bq61, .ref ao])) rfl rfl (hb hby d10_40)
  have N82 := Fr.snoc X82 N61 g_ao
  have f83 := f62.wr W82
  have f84 := f63.other W82 (Or.inr (own_s46_24 hw))
  have f85 := f64.other W82 (Or.inr (own_s29_24 hw))
  have f86 := f65.other W82 (Or.inr (own_s20_24 hw))
  have f87 := f66.other W82 (Or.inr (own_s66_24 hw))
  have f88 := f67.other W82 (Or.inr (own_s22_24 hw))
  have f89 := f68.same W82
  have f90 := f69.other W82 (Or.inr (own_s26_24 hw))
  have f91 := f70.other W82 (Or.inr (own_s33_24 hw))
  have f92 := f71.other W82 (Or.inr (own_s35_24 hw))
  have f93 := f72.other W82 (Ne.symm ne_ao_bk)
  have f94 := f73.other W82 (Ne.symm ne_ao_bl)
  have f95 := f74.other W82 (Ne.symm ne_ao_bc)
  have f96 := f75.other W82 (Ne.symm ne_ao_bp)
  have f97 := f76.other W82 (Ne.symm ne_ao_bq)
  have f98 := f77.wrO W82 f62 (by decide)
  have f99 := f78.wr W82 g_ao
  have f100 := f79.other W82 (Ne.symm ne_ao_bq16)
  have f101 := Aq61.other W82 (Ne.symm ne_ao_bq61)
  have z102 := Nat.le_trans z80 (Keep.of_wr W82).1
  have st103 := fun t kt => st81 t (ls82 t kt)
  have st104 : own_K p e below T82 m 45 #[rv ao, iv ukey, iv (Int32.ofNat pos), iv (Int32.ofNat (2 * cap)), .unset] [.ref ao, .ref ao] B0 := fun t kt => st103 t (by
   refine XS.aloadN X82.here hx rfl (hb hby d10_43) rfl rfl ?_
   refine XS.aloadN X82.here hx rfl (hb hby d10_44) rfl rfl ?_
   exact kt)
  obtain ⟨T105, X105, e105, ls105⟩ := getF X82 hx hZ hown (host := "") (Or.inl (own_w hw 25 rfl)) Via.refl e82 f90 (g := (mkF m 45 #[rv ao, iv ukey, iv (Int32.ofNat pos), iv (Int32.ofNat (2 * cap)), .unset] [.ref ao, .ref ao])) rfl rfl (hb hby d10_45)
  have st106 := fun t kt => st104 t (ls105 t kt)
  have st107 : own_K p e below T105 m 52 #[rv ao, iv ukey, iv (Int32.ofNat pos), iv (Int32.ofNat (2 * cap)), .unset] [(.int (Int32.ofNat (64 * (2 * cap)))), .ref bc, .ref ao] B0 := fun t kt => st106 t (by
   refine XS.iloadN X105.here hx rfl (hb hby d10_48) rfl ?_
   refine XS.bipush X105.here hx rfl (hb hby d10_49) ?_
   refine XS.ishl X105.here hx rfl (hb hby d10_51) rfl ?_
   show own_At p e below T105 m 52 #[rv ao, iv ukey, iv (Int32.ofNat pos), iv (Int32.ofNat (2 * cap)), .unset] [(.int ((Int32.ofNat (2 * cap)) <<< ((6 : Int32) &&& 31))), .ref bc, .ref ao] _
   rw [show ((Int32.ofNat (2 * cap)) <<< ((6 : Int32) &&& 31)) = (Int32.ofNat (64 * (2 * cap))) from (own_shl6 (2 * cap) (by omega))]
   exact kt)
  have lt108_ao := f83.lt
  have lt108_bk := f93.lt
  have lt108_bl := f94.lt
  have lt108_bc := f95.lt
  have lt108_bp := f96.lt
  have lt108_bq := f97.lt
  have lt108_bq16 := f100.lt
  have lt108_bq61 := f101.lt
  obtain ⟨_, _, ⟨T108, L108, k108, n108⟩, -, X108, ⟨Lc108, hQ108, l108, y108, z108⟩, ls108⟩ := Jvm.LawKit.callS X105 hx (y := (⟨"java/util/Arrays", "copyOf", "([II)[I"⟩ : MethodName)) hown (mvT hZ (own_w hw 86 rfl)) (mvT hZ (own_w hw 87 rfl)) (mvT hZ (own_w hw 49 rfl)) (mvT hZ (own_w hw 88 rfl)) (by decide) (backOf (W := 1) (rm_cpB l Z a0 hw [] bc ((64 * cap)) Ch ((64 * (2 * cap))) h82 n0 z102 f95 (by omega) (by omega)) hZ (own_w hw 88 rfl) (own_w hw 49 rfl) (by decide) (by decide)) (g := (mkF m 52 #[rv ao, iv ukey, iv (Int32.ofNat pos), iv (Int32.ofNat (2 * cap)), .unset] [(.int (Int32.ofNat (64 * (2 * cap)))), .ref bc, .ref ao])) rfl (by rw [hml]; rfl) (argsL := [.ref bc, (.int (Int32.ofNat (64 * (2 * cap))))]) (rest := [.ref ao]) (lenOf own_pd2 rfl) rfl (by show 2 * 0 + _ ≤ _; exact Nat.le_of_eq rfl) (hb hby d10_52) (fun _ _ => ⟨rfl, e105, (by decide : 2 + 1 ≤ _), (by decide : 8 + 256 ≤ _)⟩)
  dsimp only [Pt.U, Pt.locs, Pt.cells, Pt.slots] at X108 l108 y108 z108 ls108 hQ108
  subst l108 y108 z108
  obtain ⟨bq108, rfl, Nq108, Kq108, g_bq108, sq108, Aq108⟩ := hQ108
  have N108 := Fr.app N82 Nq108
  have f109 := f83.keep Kq108
  have f110 := f84.keep Kq108 nin0
  have f111 := f85.keep Kq108 nin0
  have f112 := f86.keep Kq108 nin0
  have f113 := f87.keep Kq108 nin0
  have f114 := f88.keep Kq108 nin0
  have f115 := f89.keep Kq108 nin0
  have f116 := f90.keep Kq108 nin0
  have f117 := f91.keep Kq108 nin0
  have f118 := f92.keep Kq108 nin0
  have f122 := f96.keep Kq108 nin0
  have f123 := f97.keep Kq108 nin0
  have f124 := f98.keep0 Kq108
  have f125 := f99.keep Kq108 all0
  have f126 := f100.keep Kq108 nin0
  have f127 := f101.keep Kq108 nin0
  have z128 := Nat.le_trans z102 Kq108.1
  have ne_ao_bq108 : ao ≠ bq108 := Nat.ne_of_lt (Nat.lt_of_lt_of_le lt108_ao sq108)
  have ne_bp_bq108 : bp ≠ bq108 := Nat.ne_of_lt (Nat.lt_of_lt_of_le lt108_bp sq108)
  have ne_bq_bq108 : bq ≠ bq108 := Nat.ne_of_lt (Nat.lt_of_lt_of_le lt108_bq sq108)
  have ne_bq16_bq108 : bq16 ≠ bq108 := Nat.ne_of_lt (Nat.lt_of_lt_of_le lt108_bq16 sq108)
  have ne_bq61_bq108 : bq61 ≠ bq108 := Nat.ne_of_lt (Nat.lt_of_lt_of_le lt108_bq61 sq108)
  have st129 := fun t kt => st107 t (ls108 t kt)
  obtain ⟨T130, h130, X130, e130, W130, ls130⟩ := putF X108 hx hZ hown (host := "") (Or.inl (own_w hw 25 rfl)) Via.refl rfl f116 f109 (Or.inl (own_w hw 26 rfl)) (own_w hw 11 rfl) (ty := (.array .int)) (by decide) rfl rfl (g := (mkF m 55 #[rv ao, iv ukey, iv (Int32.ofNat pos), iv (Int32.ofNat (2 * cap)), .unset] [.ref bq108, .ref ao])) rfl rfl (hb hby d10_55)
  have N130 := Fr.snoc X130 N108 g_ao
  have f131 := f109.wr W130
  have f132 := f110.other W130 (Or.inr (own_s46_26 hw))
  have f133 := f111.other W130 (Or.inr (own_s29_26 hw))
  have f134 := f112.other W130 (Or.inr (own_s20_26 hw))
  have f135 := f113.other W130 (Or.inr (own_s66_26 hw))
  have f136 := f114.other W130 (Or.inr (own_s22_26 hw))
  have f137 := f115.other W130 (Or.inr (own_s24_26 hw))
  have f138 := f116.same W130
  have f139 := f117.other W130 (Or.inr (own_s33_26 hw))
  have f140 := f118.other W130 (Or.inr (own_s35_26 hw))
  have f144 := f122.other W130 (Ne.symm ne_ao_bp)
  have f145 := f123.other W130 (Ne.symm ne_ao_bq)
  have f146 := f124.wrO W130 f109 (by decide)
  have f147 := f125.wr W130 g_ao
  have f148 := f126.other W130 (Ne.symm ne_ao_bq16)
  have f149 := f127.other W130 (Ne.symm ne_ao_bq61)
  have f150 := Aq108.other W130 (Ne.symm ne_ao_bq108)
  have z151 := Nat.le_trans z128 (Keep.of_wr W130).1
  have st152 := fun t kt => st129 t (ls130 t kt)
  have st153 : own_K p e below T130 m 61 #[rv ao, iv ukey, iv (Int32.ofNat pos), iv (Int32.ofNat (2 * cap)), iv (Int32.ofNat 0)] [] B0 := fun t kt => st152 t (by
   refine XS.iconst X130.here hx rfl (hb hby d10_58) ?_
   refine XS.istore X130.here hx rfl (hb hby d10_59) rfl (l' := #[rv ao, iv ukey, iv (Int32.ofNat pos), iv (Int32.ofNat (2 * cap)), iv 0]) rfl ?_
   show own_At p e below T130 m 61 #[rv ao, iv ukey, iv (Int32.ofNat pos), iv (Int32.ofNat (2 * cap)), iv 0] [] _
   rw [show (0 : Int32) = (Int32.ofNat 0) from (rfl)]
   exact kt)
  obtain ⟨T154, L154, h154, X154, e154, N154, Z154, ⟨Sm154, pf2, A_bp2, H_pf2⟩, ls154⟩ := own_loopE ev cap (2 * cap) ao bp ukey (Int32.ofNat pos) 6 276 hx hZ hw hby hml hown hev (by omega) (by omega) ne_ao_bp g_bp (by decide) (by decide) (by decide) (by decide) ev 0 (by omega) 3 264 _ _ _ X130 e130 N130 z151 ⟨f131, f139, by omega, by omega, pf, f144, fun q hq => ⟨(f146 q hq).1, (f146 q hq).2.1, by show own_La Z _ (pf q) (if q < 0 then 2 * cap else cap); rw [if_neg (Nat.not_lt_zero q)]; exact (f146 q hq).2.2⟩⟩
  have np_ao : ¬ (ao = bp) := ne_ao_bp
  have np_bk : ¬ (bk = bp) := ne_bk_bp
  have np_bl : ¬ (bl = bp) := ne_bl_bp
  have np_bc : ¬ (bc = bp) := ne_bc_bp
  have np_bq : ¬ (bq = bp) := (Ne.symm ne_bp_bq)
  have np_bq16 : ¬ (bq16 = bp) := (Ne.symm ne_bp_bq16)
  have np_bq61 : ¬ (bq61 = bp) := (Ne.symm ne_bp_bq61)
  have np_bq108 : ¬ (bq108 = bp) := (Ne.symm ne_bp_bq108)
  have f155 := own_ExaSm f131 Sm154 (np_ao)
  have f156 := own_FldSm f132 Sm154 (np_ao)
  have f157 := own_FldSm f133 Sm154 (np_ao)
  have f158 := own_FldSm f134 Sm154 (np_ao)
  have f159 := own_FldSm f135 Sm154 (np_ao)
  have f160 := own_FldSm f136 Sm154 (np_ao)
  have f161 := own_FldSm f137 Sm154 (np_ao)
  have f162 := own_FldSm f138 Sm154 (np_ao)
  have f163 := own_FldSm f139 Sm154 (np_ao)
  have f164 := own_FldSm f140 Sm154 (np_ao)
  have f168 := f145.sm Sm154 (np_bq)
  have f169 := f147.trans (own_Sm.mono Sm154 (fun x hx => by subst hx; exact g_bp))
  have f170 := f148.sm Sm154 (np_bq16)
  have f171 := f149.sm Sm154 (np_bq61)
  have f172 := f150.sm Sm154 (np_bq108)
  have st173 := fun t kt => st153 t (ls154 t kt)
  have f174 := f171.congr (g := fun q => .int (Int32.ofNat (if q < cap then S q else 0))) (fun q hq => by by_cases z : q < cap <;> simp [z])
  have st175 : own_K p e below T154 m 96 #[rv ao, iv ukey, iv (Int32.ofNat pos), iv (Int32.ofNat (2 * cap)), iv (Int32.ofNat ev)] [.ref ao] B0 := fun t kt => st173 t (by
   refine XS.aloadN X154.here hx rfl (hb hby d10_95) rfl rfl ?_
   exact kt)
  obtain ⟨T176, X176, e176, ls176⟩ := getF X154 hx hZ hown (host := "") (Or.inl (own_w hw 21 rfl)) Via.refl e154 f160 (g := (mkF m 96 #[rv ao, iv ukey, iv (Int32.ofNat pos), iv (Int32.ofNat (2 * cap)), iv (Int32.ofNat ev)] [.ref ao])) rfl rfl (hb hby d10_96)
  have st177 := fun t kt => st175 t (ls176 t kt)
  have st178 : own_K p e below T176 m 101 #[rv ao, iv ukey, iv (Int32.ofNat pos), iv (Int32.ofNat (2 * cap)), iv (Int32.ofNat ev)] [.ref ao, .int (Int32.ofNat pos), .ref bq16] B0 := fun t kt => st177 t (by
   refine XS.iloadN X176.here hx rfl (hb hby d10_99) rfl ?_
   refine XS.aloadN X176.here hx rfl (hb hby d10_100) rfl rfl ?_
   exact kt)
  obtain ⟨T179, X179, e179, ls179⟩ := getF X176 hx hZ hown (host := "") (Or.inl (own_w hw 21 rfl)) Via.refl e176 f160 (g := (mkF m 101 #[rv ao, iv ukey, iv (Int32.ofNat pos), iv (Int32.ofNat (2 * cap)), iv (Int32.ofNat ev)] [.ref ao, .int (Int32.ofNat pos), .ref bq16])) rfl rfl (hb hby d10_101)
  have st180 := fun t kt => st178 t (ls179 t kt)
  have st181 : own_K p e below T179 m 108 #[rv ao, iv ukey, iv (Int32.ofNat pos), iv (Int32.ofNat (2 * cap)), iv (Int32.ofNat ev)] [.ref ao, (.int (Int32.ofNat (pos + 1))), .ref bq16, .int (Int32.ofNat pos), .ref bq16] B0 := fun t kt => st180 t (by
   refine XS.iloadN X179.here hx rfl (hb hby d10_104) rfl ?_
   refine XS.iconst X179.here hx rfl (hb hby d10_105) ?_
   refine XS.iadd X179.here hx rfl (hb hby d10_106) rfl ?_
   show own_At p e below T179 m 107 #[rv ao, iv ukey, iv (Int32.ofNat pos), iv (Int32.ofNat (2 * cap)), iv (Int32.ofNat ev)] [(.int ((Int32.ofNat pos) + (1 : Int32))), .ref bq16, .int (Int32.ofNat pos), .ref bq16] _
   rw [show ((Int32.ofNat pos) + (1 : Int32)) = (Int32.ofNat (pos + 1)) from (own_up1 pos)]
   refine XS.aloadN X179.here hx rfl (hb hby d10_107) rfl rfl ?_
   exact kt)
  obtain ⟨T182, X182, e182, ls182⟩ := getF X179 hx hZ hown (host := "") (Or.inl (own_w hw 45 rfl)) Via.refl e179 f156 (g := (mkF m 108 #[rv ao, iv ukey, iv (Int32.ofNat pos), iv (Int32.ofNat (2 * cap)), iv (Int32.ofNat ev)] [.ref ao, (.int (Int32.ofNat (pos + 1))), .ref bq16, .int (Int32.ofNat pos), .ref bq16])) rfl rfl (hb hby d10_108)
  have st183 := fun t kt => st181 t (ls182 t kt)
  have st184 : own_K p e below T182 m 113 #[rv ao, iv ukey, iv (Int32.ofNat pos), iv (Int32.ofNat (2 * cap)), iv (Int32.ofNat ev)] [(.int (Int32.ofNat (nb - pos))), (.int (Int32.ofNat (pos + 1))), .ref bq16, .int (Int32.ofNat pos), .ref bq16] B0 := fun t kt => st183 t (by
   refine XS.iloadN X182.here hx rfl (hb hby d10_111) rfl ?_
   refine XS.isub X182.here hx rfl (hb hby d10_112) rfl ?_
   show own_At p e below T182 m 113 #[rv ao, iv ukey, iv (Int32.ofNat pos), iv (Int32.ofNat (2 * cap)), iv (Int32.ofNat ev)] [(.int ((Int32.ofNat nb) - (Int32.ofNat pos))), (.int (Int32.ofNat (pos + 1))), .ref bq16, .int (Int32.ofNat pos), .ref bq16] _
   rw [show ((Int32.ofNat nb) - (Int32.ofNat pos)) = (Int32.ofNat (nb - pos)) from (own_sub hpos)]
   exact kt)
  obtain ⟨T185, h185, L185, X185, e185, N185, K185, B185, ls185⟩ := own_cp X182 hx hZ hown (own_w hw 61 rfl) (own_w hw 64 rfl) (own_w hw 62 rfl) (own_w hw 63 rfl) e182 (ty := .int) rfl f170 f170 (fun _ _ => rfl) (fun _ _ => rfl) (i := pos) (j := (pos + 1)) (k := (nb - pos)) (pp.2) (pp.1) ((own_nat32 (by omega)).2) ((own_nat32 (by omega)).1) ((own_nat32 (by omega)).2) ((own_nat32 (by omega)).1) (by omega) (by omega) N154 g_bq16 (g := (mkF m 113 #[rv ao, iv ukey, iv (Int32.ofNat pos), iv (Int32.ofNat (2 * cap)), iv (Int32.ofNat ev)] [(.int (Int32.ofNat (nb - pos))), (.int (Int32.ofNat (pos + 1))), .ref bq16, .int (Int32.ofNat pos), .ref bq16])) rfl (by rw [hml]; rfl) rfl (hb hby d10_113) (by decide) (W := 0) (by show 2 * 0 + _ ≤ _; exact Nat.le_of_eq rfl) (by decide)
  have f186 := f155.keep K185
  have f187 := f156.keep K185 (ninS ne_ao_bq16 nin0)
  have f188 := f157.keep K185 (ninS ne_ao_bq16 nin0)
  have f189 := f158.keep K185 (ninS ne_ao_bq16 nin0)
  have f190 := f159.keep K185 (ninS ne_ao_bq16 nin0)
  have f191 := f160.keep K185 (ninS ne_ao_bq16 nin0)
  have f192 := f161.keep K185 (ninS ne_ao_bq16 nin0)
  have f193 := f162.keep K185 (ninS ne_ao_bq16 nin0)
  have f194 := f163.keep K185 (ninS ne_ao_bq16 nin0)
  have f195 := f164.keep K185 (ninS ne_ao_bq16 nin0)
  have f199 := f168.keep K185 (ninS ne_bq_bq16 nin0)
  have f200 := f169.keep K185 (allS (P := fun x => n0 ≤ x) g_bq16 all0)
  have f202 := f174.keep K185 (ninS (Ne.symm ne_bq16_bq61) nin0)
  have f203 := f172.keep K185 (ninS (Ne.symm ne_bq16_bq108) nin0)
  have f204 := A_bp2.keep K185 (ninS ne_bp_bq16 nin0)
  have f205 := H_pf2.keepA K185 f170 (by decide)
  have z206 := Nat.le_trans Z154 K185.1
  have f207 : own_Av Z h185 bq16 .int (2 * cap) (fun q => .int (if pos + 1 ≤ q ∧ q < pos + 1 + (nb - pos) then (fun q => if q < cap then K q else 0) (pos + (q - (pos + 1))) else (fun q => if q < cap then K q else 0) q)) := B185.congr (fun q hq => (apply_ite Value.int _ _ _).symm)
  have st208 := fun t kt => st184 t (ls185 t kt)
  have st209 : own_K p e below T185 m 117 #[rv ao, iv ukey, iv (Int32.ofNat pos), iv (Int32.ofNat (2 * cap)), iv (Int32.ofNat ev)] [.ref ao] B0 := fun t kt => st208 t (by
   refine XS.aloadN X185.here hx rfl (hb hby d10_116) rfl rfl ?_
   exact kt)
  obtain ⟨T210, X210, e210, ls210⟩ := getF X185 hx hZ hown (host := "") (Or.inl (own_w hw 23 rfl)) Via.refl e185 f192 (g := (mkF m 117 #[rv ao, iv ukey, iv (Int32.ofNat pos), iv (Int32.ofNat (2 * cap)), iv (Int32.ofNat ev)] [.ref ao])) rfl rfl (hb hby d10_117)
  have st211 := fun t kt => st209 t (ls210 t kt)
  have st212 : own_K p e below T210 m 122 #[rv ao, iv ukey, iv (Int32.ofNat pos), iv (Int32.ofNat (2 * cap)), iv (Int32.ofNat ev)] [.ref ao, .int (Int32.ofNat pos), .ref bq61] B0 := fun t kt => st211 t (by
   refine XS.iloadN X210.here hx rfl (hb hby d10_120) rfl ?_
   refine XS.aloadN X210.here hx rfl (hb hby d10_121) rfl rfl ?_
   exact kt)
  obtain ⟨T213, X213, e213, ls213⟩ := getF X210 hx hZ hown (host := "") (Or.inl (own_w hw 23 rfl)) Via.refl e210 f192 (g := (mkF m 122 #[rv ao, iv ukey, iv (Int32.ofNat pos), iv (Int32.ofNat (2 * cap)), iv (Int32.ofNat ev)] [.ref ao, .int (Int32.ofNat pos), .ref bq61])) rfl rfl (hb hby d10_122)
  have st214 := fun t kt => st212 t (ls213 t kt)
  have st215 : own_K p e below T213 m 129 #[rv ao, iv ukey, iv (Int32.ofNat pos), iv (Int32.ofNat (2 * cap)), iv (Int32.ofNat ev)] [.ref ao, (.int (Int32.ofNat (pos + 1))), .ref bq61, .int (Int32.ofNat pos), .ref bq61] B0 := fun t kt => st214 t (by
   refine XS.iloadN X213.here hx rfl (hb hby d10_125) rfl ?_
   refine XS.iconst X213.here hx rfl (hb hby d10_126) ?_
   refine XS.iadd X213.here hx rfl (hb hby d10_127) rfl ?_
   show own_At p e below T213 m 128 #[rv ao, iv ukey, iv (Int32.ofNat pos), iv (Int32.ofNat (2 * cap)), iv (Int32.ofNat ev)] [(.int ((Int32.ofNat pos) + (1 : Int32))), .ref bq61, .int (Int32.ofNat pos), .ref bq61] _
   rw [show ((Int32.ofNat pos) + (1 : Int32)) = (Int32.ofNat (pos + 1)) from (own_up1 pos)]
   refine XS.aloadN X213.here hx rfl (hb hby d10_128) rfl rfl ?_
   exact kt)
  obtain ⟨T216, X216, e216, ls216⟩ := getF X213 hx hZ hown (host := "") (Or.inl (own_w hw 45 rfl)) Via.refl e213 f187 (g := (mkF m 129 #[rv ao, iv ukey, iv (Int32.ofNat pos), iv (Int32.ofNat (2 * cap)), iv (Int32.ofNat ev)] [.ref ao, (.int (Int32.ofNat (pos + 1))), .ref bq61, .int (Int32.ofNat pos), .ref bq61])) rfl rfl (hb hby d10_129)
  have st217 := fun t kt => st215 t (ls216 t kt)
  have st218 : own_K p e below T216 m 134 #[rv ao, iv ukey, iv (Int32.ofNat pos), iv (Int32.ofNat (2 * cap)), iv (Int32.ofNat ev)] [(.int (Int32.ofNat (nb - pos))), (.int (Int32.ofNat (pos + 1))), .ref bq61, .int (Int32.ofNat pos), .ref bq61] B0 := fun t kt => st217 t (by
   refine XS.iloadN X216.here hx rfl (hb hby d10_132) rfl ?_
   refine XS.isub X216.here hx rfl (hb hby d10_133) rfl ?_
   show own_At p e below T216 m 134 #[rv ao, iv ukey, iv (Int32.ofNat pos), iv (Int32.ofNat (2 * cap)), iv (Int32.ofNat ev)] [(.int ((Int32.ofNat nb) - (Int32.ofNat pos))), (.int (Int32.ofNat (pos + 1))), .ref bq61, .int (Int32.ofNat pos), .ref bq61] _
   rw [show ((Int32.ofNat nb) - (Int32.ofNat pos)) = (Int32.ofNat (nb - pos)) from (own_sub hpos)]
   exact kt)
  obtain ⟨T219, h219, L219, X219, e219, N219, K219, B219, ls219⟩ := own_cp X216 hx hZ hown (own_w hw 61 rfl) (own_w hw 64 rfl) (own_w hw 62 rfl) (own_w hw 63 rfl) e216 (ty := .int) rfl f202 f202 (fun _ _ => rfl) (fun _ _ => rfl) (i := pos) (j := (pos + 1)) (k := (nb - pos)) (pp.2) (pp.1) ((own_nat32 (by omega)).2) ((own_nat32 (by omega)).1) ((own_nat32 (by omega)).2) ((own_nat32 (by omega)).1) (by omega) (by omega) N185 g_bq61 (g := (mkF m 134 #[rv ao, iv ukey, iv (Int32.ofNat pos), iv (Int32.ofNat (2 * cap)), iv (Int32.ofNat ev)] [(.int (Int32.ofNat (nb - pos))), (.int (Int32.ofNat (pos + 1))), .ref bq61, .int (Int32.ofNat pos), .ref bq61])) rfl (by rw [hml]; rfl) rfl (hb hby d10_134) (by decide) (W := 0) (by show 2 * 0 + _ ≤ _; exact Nat.le_of_eq rfl) (by decide)
  have f220 := f186.keep K219
  have f221 := f187.keep K219 (ninS ne_ao_bq61 nin0)
  have f222 := f188.keep K219 (ninS ne_ao_bq61 nin0)
  have f223 := f189.keep K219 (ninS ne_ao_bq61 nin0)
  have f224 := f190.keep K219 (ninS ne_ao_bq61 nin0)
  have f225 := f191.keep K219 (ninS ne_ao_bq61 nin0)
  have f226 := f192.keep K219 (ninS ne_ao_bq61 nin0)
  have f227 := f193.keep K219 (ninS ne_ao_bq61 nin0)
  have f228 := f194.keep K219 (ninS ne_ao_bq61 nin0)
  have f229 := f195.keep K219 (ninS ne_ao_bq61 nin0)
  have f233 := f199.keep K219 (ninS ne_bq_bq61 nin0)
  have f234 := f200.keep K219 (allS (P := fun x => n0 ≤ x) g_bq61 all0)
  have f236 := f203.keep K219 (ninS (Ne.symm ne_bq61_bq108) nin0)
  have f237 := f204.keep K219 (ninS ne_bp_bq61 nin0)
  have f238 := f205.keepA K219 f202 (by decide)
  have f239 := f207.keep K219 (ninS ne_bq16_bq61 nin0)
  have z240 := Nat.le_trans z206 K219.1
  have f241 : own_Av Z h219 bq61 .int (2 * cap) (fun q => .int (Int32.ofNat (if pos + 1 ≤ q ∧ q < pos + 1 + (nb - pos) then (fun q => if q < cap then S q else 0) (pos + (q - (pos + 1))) else (fun q => if q < cap then S q else 0) q))) := B219.congr (fun q hq => by by_cases z : pos + 1 ≤ q ∧ q < pos + 1 + (nb - pos) <;> simp [z])
  have st242 := fun t kt => st218 t (ls219 t kt)
  have st243 : own_K p e below T219 m 138 #[rv ao, iv ukey, iv (Int32.ofNat pos), iv (Int32.ofNat (2 * cap)), iv (Int32.ofNat ev)] [.ref ao] B0 := fun t kt => st242 t (by
   refine XS.aloadN X219.here hx rfl (hb hby d10_137) rfl rfl ?_
   exact kt)
  obtain ⟨T244, X244, e244, ls244⟩ := getF X219 hx hZ hown (host := "") (Or.inl (own_w hw 21 rfl)) Via.refl e219 f225 (g := (mkF m 138 #[rv ao, iv ukey, iv (Int32.ofNat pos), iv (Int32.ofNat (2 * cap)), iv (Int32.ofNat ev)] [.ref ao])) rfl rfl (hb hby d10_138)
  have st245 := fun t kt => st243 t (ls244 t kt)
  have st246 : own_K p e below T244 m 143 #[rv ao, iv ukey, iv (Int32.ofNat pos), iv (Int32.ofNat (2 * cap)), iv (Int32.ofNat ev)] [.int ukey, .int (Int32.ofNat pos), .ref bq16] B0 := fun t kt => st245 t (by
   refine XS.iloadN X244.here hx rfl (hb hby d10_141) rfl ?_
   refine XS.iloadN X244.here hx rfl (hb hby d10_142) rfl ?_
   exact kt)
  obtain ⟨T247, h247, X247, e247, W247, B247, ls247⟩ := own_iastore X244 hx hZ e244 f239 (j := (Int32.ofNat pos)) (i := pos) (pp.2) (pp.1) (by omega) (g := (mkF m 143 #[rv ao, iv ukey, iv (Int32.ofNat pos), iv (Int32.ofNat (2 * cap)), iv (Int32.ofNat ev)] [.int ukey, .int (Int32.ofNat pos), .ref bq16])) rfl rfl (hb hby d10_143)
  have N247 := Fr.snoc X247 N219 g_bq16
  have f248 := f220.wr W247
  have f249 := f221.other W247 (Or.inl ne_ao_bq16)
  have f250 := f222.other W247 (Or.inl ne_ao_bq16)
  have f251 := f223.other W247 (Or.inl ne_ao_bq16)
  have f252 := f224.other W247 (Or.inl ne_ao_bq16)
  have f253 := f225.other W247 (Or.inl ne_ao_bq16)
  have f254 := f226.other W247 (Or.inl ne_ao_bq16)
  have f255 := f227.other W247 (Or.inl ne_ao_bq16)
  have f256 := f228.other W247 (Or.inl ne_ao_bq16)
  have f257 := f229.other W247 (Or.inl ne_ao_bq16)
  have f261 := f233.other W247 ne_bq_bq16
  have f262 := f234.wr W247 g_bq16
  have f263 := f236.other W247 (Ne.symm ne_bq16_bq108)
  have f264 := f237.other W247 ne_bp_bq16
  have f265 := f238.wrA W247 f239 (by decide)
  have f266 := f241.other W247 (Ne.symm ne_bq16_bq61)
  have z267 := Nat.le_trans z240 (Keep.of_wr W247).1
  have f268 := B247.congr (g := (fun q => .int ((fun q => if q = pos then ukey else if pos + 1 ≤ q ∧ q < pos + 1 + (nb - pos) then (fun q => if q < cap then K q else 0) (pos + (q - (pos + 1))) else (fun q => if q < cap then K q else 0) q) q))) (fun q hq => (apply_ite Value.int _ _ _).symm)
  have st269 := fun t kt => st246 t (ls247 t kt)
  have st270 : own_K p e below T247 m 145 #[rv ao, iv ukey, iv (Int32.ofNat pos), iv (Int32.ofNat (2 * cap)), iv (Int32.ofNat ev)] [.ref ao] B0 := fun t kt => st269 t (by
   refine XS.aloadN X247.here hx rfl (hb hby d10_144) rfl rfl ?_
   exact kt)
  obtain ⟨T271, X271, e271, ls271⟩ := getF X247 hx hZ hown (host := "") (Or.inl (own_w hw 23 rfl)) Via.refl e247 f254 (g := (mkF m 145 #[rv ao, iv ukey, iv (Int32.ofNat pos), iv (Int32.ofNat (2 * cap)), iv (Int32.ofNat ev)] [.ref ao])) rfl rfl (hb hby d10_145)
  have st272 := fun t kt => st270 t (ls271 t kt)
  have st273 : own_K p e below T271 m 150 #[rv ao, iv ukey, iv (Int32.ofNat pos), iv (Int32.ofNat (2 * cap)), iv (Int32.ofNat ev)] [.ref ao, .int (Int32.ofNat pos), .ref bq61] B0 := fun t kt => st272 t (by
   refine XS.iloadN X271.here hx rfl (hb hby d10_148) rfl ?_
   refine XS.aloadN X271.here hx rfl (hb hby d10_149) rfl rfl ?_
   exact kt)
  obtain ⟨T274, X274, e274, ls274⟩ := getF X271 hx hZ hown (host := "") (Or.inl (own_w hw 45 rfl)) Via.refl e271 f249 (g := (mkF m 150 #[rv ao, iv ukey, iv (Int32.ofNat pos), iv (Int32.ofNat (2 * cap)), iv (Int32.ofNat ev)] [.ref ao, .int (Int32.ofNat pos), .ref bq61])) rfl rfl (hb hby d10_150)
  have st275 := fun t kt => st273 t (ls274 t kt)
  obtain ⟨T276, h276, X276, e276, W276, B276, ls276⟩ := own_iastore X274 hx hZ e274 f266 (j := (Int32.ofNat pos)) (i := pos) (pp.2) (pp.1) (by omega) (g := (mkF m 153 #[rv ao, iv ukey, iv (Int32.ofNat pos), iv (Int32.ofNat (2 * cap)), iv (Int32.ofNat ev)] [.int (Int32.ofNat nb), .int (Int32.ofNat pos), .ref bq61])) rfl rfl (hb hby d10_153)
  have N276 := Fr.snoc X276 N247 g_bq61
  have f277 := f248.wr W276
  have f278 := f249.other W276 (Or.inl ne_ao_bq61)
  have f279 := f250.other W276 (Or.inl ne_ao_bq61)
  have f280 := f251.other W276 (Or.inl ne_ao_bq61)
  have f281 := f252.other W276 (Or.inl ne_ao_bq61)
  have f282 := f253.other W276 (Or.inl ne_ao_bq61)
  have f283 := f254.other W276 (Or.inl ne_ao_bq61)
  have f284 := f255.other W276 (Or.inl ne_ao_bq61)
  have f285 := f256.other W276 (Or.inl ne_ao_bq61)
  have f286 := f257.other W276 (Or.inl ne_ao_bq61)
  have f290 := f261.other W276 ne_bq_bq61
  have f291 := f262.wr W276 g_bq61
  have f292 := f263.other W276 (Ne.symm ne_bq61_bq108)
  have f293 := f264.other W276 ne_bp_bq61
  have f294 := f265.wrA W276 f266 (by decide)
  have f295 := f268.other W276 ne_bq16_bq61
  have z296 := Nat.le_trans z267 (Keep.of_wr W276).1
  have f297 := B276.congr (g := (fun q => .int (Int32.ofNat ((fun q => if q = pos then nb else if pos + 1 ≤ q ∧ q < pos + 1 + (nb - pos) then (fun q => if q < cap then S q else 0) (pos + (q - (pos + 1))) else (fun q => if q < cap then S q else 0) q) q)))) (fun q hq => by by_cases z : q = pos <;> simp [z])
  have st298 := fun t kt => st275 t (ls276 t kt)
  have st299 : own_K p e below T276 m 156 #[rv ao, iv ukey, iv (Int32.ofNat pos), iv (Int32.ofNat (2 * cap)), iv (Int32.ofNat ev)] [.ref ao, .ref ao] B0 := fun t kt => st298 t (by
   refine XS.aloadN X276.here hx rfl (hb hby d10_154) rfl rfl ?_
   refine XS.dup X276.here hx rfl (hb hby d10_155) rfl rfl ?_
   exact kt)
  obtain ⟨T300, X300, e300, ls300⟩ := getF X276 hx hZ hown (host := "") (Or.inl (own_w hw 45 rfl)) Via.refl e276 f278 (g := (mkF m 156 #[rv ao, iv ukey, iv (Int32.ofNat pos), iv (Int32.ofNat (2 * cap)), iv (Int32.ofNat ev)] [.ref ao, .ref ao])) rfl rfl (hb hby d10_156)
  have st301 := fun t kt => st299 t (ls300 t kt)
  have st302 : own_K p e below T300 m 161 #[rv ao, iv ukey, iv (Int32.ofNat pos), iv (Int32.ofNat (2 * cap)), iv (Int32.ofNat ev)] [(.int (Int32.ofNat (nb + 1))), .ref ao] B0 := fun t kt => st301 t (by
   refine XS.iconst X300.here hx rfl (hb hby d10_159) ?_
   refine XS.iadd X300.here hx rfl (hb hby d10_160) rfl ?_
   show own_At p e below T300 m 161 #[rv ao, iv ukey, iv (Int32.ofNat pos), iv (Int32.ofNat (2 * cap)), iv (Int32.ofNat ev)] [(.int ((Int32.ofNat nb) + (1 : Int32))), .ref ao] _
   rw [show ((Int32.ofNat nb) + (1 : Int32)) = (Int32.ofNat (nb + 1)) from (own_up1 nb)]
   exact kt)
  obtain ⟨T303, h303, X303, e303, W303, ls303⟩ := putF X300 hx hZ hown (host := "") (Or.inl (own_w hw 45 rfl)) Via.refl e300 f278 f277 (Or.inl (own_w hw 46 rfl)) (own_w hw 11 rfl) (ty := .int) (by decide) rfl rfl (g := (mkF m 161 #[rv ao, iv ukey, iv (Int32.ofNat pos), iv (Int32.ofNat (2 * cap)), iv (Int32.ofNat ev)] [(.int (Int32.ofNat (nb + 1))), .ref ao])) rfl rfl (hb hby d10_161)
  have N303 := Fr.snoc X303 N276 g_ao
  have f304 := f277.wr W303
  have f305 := f278.same W303
  have f306 := f279.other W303 (Or.inr (own_s29_46 hw))
  have f307 := f280.other W303 (Or.inr (own_s20_46 hw))
  have f308 := f281.other W303 (Or.inr (own_s66_46 hw))
  have f309 := f282.other W303 (Or.inr (own_s22_46 hw))
  have f310 := f283.other W303 (Or.inr (own_s24_46 hw))
  have f311 := f284.other W303 (Or.inr (own_s26_46 hw))
  have f312 := f285.other W303 (Or.inr (own_s33_46 hw))
  have f313 := f286.other W303 (Or.inr (own_s35_46 hw))
  have f317 := f290.other W303 (Ne.symm ne_ao_bq)
  have f318 := f291.wr W303 g_ao
  have f319 := f292.other W303 (Ne.symm ne_ao_bq108)
  have f320 := f293.other W303 (Ne.symm ne_ao_bp)
  have f321 := f294.wrO W303 f277 (by decide)
  have f322 := f295.other W303 (Ne.symm ne_ao_bq16)
  have f323 := f297.other W303 (Ne.symm ne_ao_bq61)
  have z324 := Nat.le_trans z296 (Keep.of_wr W303).1
  have st325 := fun t kt => st302 t (ls303 t kt)
  have st326 : own_K p e below T303 m 166 #[rv ao, iv ukey, iv (Int32.ofNat pos), iv (Int32.ofNat (2 * cap)), iv (Int32.ofNat ev)] [.int ukey, .ref ao] B0 := fun t kt => st325 t (by
   refine XS.aloadN X303.here hx rfl (hb hby d10_164) rfl rfl ?_
   refine XS.iloadN X303.here hx rfl (hb hby d10_165) rfl ?_
   exact kt)
  obtain ⟨T327, h327, X327, e327, W327, ls327⟩ := putF X303 hx hZ hown (host := "") (Or.inl (own_w hw 19 rfl)) Via.refl e303 f307 f304 (Or.inl (own_w hw 20 rfl)) (own_w hw 11 rfl) (ty := .int) (by decide) rfl rfl (g := (mkF m 166 #[rv ao, iv ukey, iv (Int32.ofNat pos), iv (Int32.ofNat (2 * cap)), iv (Int32.ofNat ev)] [.int ukey, .ref ao])) rfl rfl (hb hby d10_166)
  have N327 := Fr.snoc X327 N303 g_ao
  have f328 := f304.wr W327
  have f329 := f305.other W327 (Or.inr (own_s46_20 hw))
  have f330 := f306.other W327 (Or.inr (own_s29_20 hw))
  have f331 := f307.same W327
  have f332 := f308.other W327 (Or.inr (own_s66_20 hw))
  have f333 := f309.other W327 (Or.inr (own_s22_20 hw))
  have f334 := f310.other W327 (Or.inr (own_s24_20 hw))
  have f335 := f311.other W327 (Or.inr (own_s26_20 hw))
  have f336 := f312.other W327 (Or.inr (own_s33_20 hw))
  have f337 := f313.other W327 (Or.inr (own_s35_20 hw))
  have f341 := f317.other W327 (Ne.symm ne_ao_bq)
  have f342 := f318.wr W327 g_ao
  have f343 := f319.other W327 (Ne.symm ne_ao_bq108)
  have f344 := f320.other W327 (Ne.symm ne_ao_bp)
  have f345 := f321.wrO W327 f304 (by decide)
  have f346 := f322.other W327 (Ne.symm ne_ao_bq16)
  have f347 := f323.other W327 (Ne.symm ne_ao_bq61)
  have z348 := Nat.le_trans z324 (Keep.of_wr W327).1
  have st349 := fun t kt => st326 t (ls327 t kt)
  have st350 : own_K p e below T327 m 171 #[rv ao, iv ukey, iv (Int32.ofNat pos), iv (Int32.ofNat (2 * cap)), iv (Int32.ofNat ev)] [.int (Int32.ofNat pos), .ref ao] B0 := fun t kt => st349 t (by
   refine XS.aloadN X327.here hx rfl (hb hby d10_169) rfl rfl ?_
   refine XS.iloadN X327.here hx rfl (hb hby d10_170) rfl ?_
   exact kt)
  obtain ⟨T351, h351, X351, e351, W351, ls351⟩ := putF X327 hx hZ hown (host := "") (Or.inl (own_w hw 65 rfl)) Via.refl e327 f332 f328 (Or.inl (own_w hw 66 rfl)) (own_w hw 11 rfl) (ty := .int) (by decide) rfl rfl (g := (mkF m 171 #[rv ao, iv ukey, iv (Int32.ofNat pos), iv (Int32.ofNat (2 * cap)), iv (Int32.ofNat ev)] [.int (Int32.ofNat pos), .ref ao])) rfl rfl (hb hby d10_171)
  have N351 := Fr.snoc X351 N327 g_ao
  have f352 := f328.wr W351
  have f353 := f329.other W351 (Or.inr (own_s46_66 hw))
  have f354 := f330.other W351 (Or.inr (own_s29_66 hw))
  have f355 := f331.other W351 (Or.inr (own_s20_66 hw))
  have f356 := f332.same W351
  have f357 := f333.other W351 (Or.inr (own_s22_66 hw))
  have f358 := f334.other W351 (Or.inr (own_s24_66 hw))
  have f359 := f335.other W351 (Or.inr (own_s26_66 hw))
  have f360 := f336.other W351 (Or.inr (own_s33_66 hw))
  have f361 := f337.other W351 (Or.inr (own_s35_66 hw))
  have f365 := f341.other W351 (Ne.symm ne_ao_bq)
  have f366 := f342.wr W351 g_ao
  have f367 := f343.other W351 (Ne.symm ne_ao_bq108)
  have f368 := f344.other W351 (Ne.symm ne_ao_bp)
  have f369 := f345.wrO W351 f328 (by decide)
  have f370 := f346.other W351 (Ne.symm ne_ao_bq16)
  have f371 := f347.other W351 (Ne.symm ne_ao_bq61)
  have z372 := Nat.le_trans z348 (Keep.of_wr W351).1
  have st373 := fun t kt => st350 t (ls351 t kt)
  have st374 : own_K p e below T351 m 175 #[rv ao, iv ukey, iv (Int32.ofNat pos), iv (Int32.ofNat (2 * cap)), iv (Int32.ofNat ev)] [.int (Int32.ofNat pos)] B0 := fun t kt => st373 t (by
   refine XS.iloadN X351.here hx rfl (hb hby d10_174) rfl ?_
   exact kt)
  obtain ⟨fs, hr, hrun, hended, hW, hsame⟩ := X351.leave (v := (some (.int (Int32.ofNat pos)))) (fun h => by rw [Bd.returns] at h; cases h)
  subst hB0
  refine ⟨_, _, st374 _ ?_, hrun, hended, _, _, rfl, ?_, ⟨_, rfl⟩, hW, hsame.mono (by decide) (by decide)⟩
  ·exact retOut X351 hx Bd.returns rfl (Or.inl ⟨rfl, Or.inl rfl, _, rfl⟩) (hb hby d10_175) hr
  ·show Q_rm_insert Z ao ukey nb cap K S Ch ct lk ev pos h0 n0 _ T351.heap _
   rw [e351]
   exact ⟨rfl, N351, z372, f366, (2 * cap), _, _, _, _, by omega, by omega, ⟨f352, f353, f354, f355, ⟨_, f356⟩, bq16, bq61, bq108, bp, bq, by
    intro x hx
    simp only [List.mem_cons, List.not_mem_nil, or_false] at hx
    rcases hx with rfl | rfl | rfl | rfl | rfl | rfl
    ·exact g_ao
    ·exact g_bq16
    ·exact g_bq61
    ·exact g_bq108
    ·exact g_bp
    ·exact g_bq, by simp [ne_ao_bq16, ne_ao_bq61, ne_ao_bq108, ne_ao_bp, ne_ao_bq, ne_bq16_bq61, ne_bq16_bq108, (Ne.symm ne_bp_bq16), (Ne.symm ne_bq_bq16), ne_bq61_bq108, (Ne.symm ne_bp_bq61), (Ne.symm ne_bq_bq61), (Ne.symm ne_bp_bq108), (Ne.symm ne_bq_bq108), ne_bp_bq], f357, f358, f359, f360, f361, f370, f371, f367, ⟨pf2, f368, f369⟩, _, f365⟩, own_ins_ok (cap := (2 * cap)) hpos (by omega) (fun q hq => if_pos (by omega)) (fun q hq => if_pos (by omega)) (fun x hx => if_pos (by omega)) (fun x h1 h2 => if_neg (by omega))⟩
 ·have e_nc : nb + 1 ≤ cap := by
   rcases Nat.lt_or_ge nb cap with z | z
   ·exact z
   ·exact absurd (congrArg Int32.ofNat (Nat.le_antisymm hnb z)) q1
  have st375 : own_K p e below T5 m 96 #[rv ao, iv ukey, iv (Int32.ofNat pos), .unset, .unset] [.ref ao] B0 := fun t kt => st8 t (by
   refine XS.icmpYes X5.here hx rfl (pc0 := 9) (pc' := 95) rfl (hb hby d10_9) rfl (feq q1).2 (by decide) (by decide) ?_
   refine XS.aloadN X5.here hx rfl (hb hby d10_95) rfl rfl ?_
   exact kt)
  obtain ⟨T376, X376, e376, ls376⟩ := getF X5 hx hZ hown (host := "") (Or.inl (own_w hw 21 rfl)) Via.refl e5 F_ke (g := (mkF m 96 #[rv ao, iv ukey, iv (Int32.ofNat pos), .unset, .unset] [.ref ao])) rfl rfl (hb hby d10_96)
  have st377 := fun t kt => st375 t (ls376 t kt)
  have st378 : own_K p e below T376 m 101 #[rv ao, iv ukey, iv (Int32.ofNat pos), .unset, .unset] [.ref ao, .int (Int32.ofNat pos), .ref bk] B0 := fun t kt => st377 t (by
   refine XS.iloadN X376.here hx rfl (hb hby d10_99) rfl ?_
   refine XS.aloadN X376.here hx rfl (hb hby d10_100) rfl rfl ?_
   exact kt)
  obtain ⟨T379, X379, e379, ls379⟩ := getF X376 hx hZ hown (host := "") (Or.inl (own_w hw 21 rfl)) Via.refl e376 F_ke (g := (mkF m 101 #[rv ao, iv ukey, iv (Int32.ofNat pos), .unset, .unset] [.ref ao, .int (Int32.ofNat pos), .ref bk])) rfl rfl (hb hby d10_101)
  have st380 := fun t kt => st378 t (ls379 t kt)
  have st381 : own_K p e below T379 m 108 #[rv ao, iv ukey, iv (Int32.ofNat pos), .unset, .unset] [.ref ao, (.int (Int32.ofNat (pos + 1))), .ref bk, .int (Int32.ofNat pos), .ref bk] B0 := fun t kt => st380 t (by
   refine XS.iloadN X379.here hx rfl (hb hby d10_104) rfl ?_
   refine XS.iconst X379.here hx rfl (hb hby d10_105) ?_
   refine XS.iadd X379.here hx rfl (hb hby d10_106) rfl ?_
   show own_At p e below T379 m 107 #[rv ao, iv ukey, iv (Int32.ofNat pos), .unset, .unset] [(.int ((Int32.ofNat pos) + (1 : Int32))), .ref bk, .int (Int32.ofNat pos), .ref bk] _
   rw [show ((Int32.ofNat pos) + (1 : Int32)) = (Int32.ofNat (pos + 1)) from (own_up1 pos)]
   refine XS.aloadN X379.here hx rfl (hb hby d10_107) rfl rfl ?_
   exact kt)
  obtain ⟨T382, X382, e382, ls382⟩ := getF X379 hx hZ hown (host := "") (Or.inl (own_w hw 45 rfl)) Via.refl e379 F_bl (g := (mkF m 108 #[rv ao, iv ukey, iv (Int32.ofNat pos), .unset, .unset] [.ref ao, (.int (Int32.ofNat (pos + 1))), .ref bk, .int (Int32.ofNat pos), .ref bk])) rfl rfl (hb hby d10_108)
  have st383 := fun t kt => st381 t (ls382 t kt)
  have st384 : own_K p e below T382 m 113 #[rv ao, iv ukey, iv (Int32.ofNat pos), .unset, .unset] [(.int (Int32.ofNat (nb - pos))), (.int (Int32.ofNat (pos + 1))), .ref bk, .int (Int32.ofNat pos), .ref bk] B0 := fun t kt => st383 t (by
   refine XS.iloadN X382.here hx rfl (hb hby d10_111) rfl ?_
   refine XS.isub X382.here hx rfl (hb hby d10_112) rfl ?_
   show own_At p e below T382 m 113 #[rv ao, iv ukey, iv (Int32.ofNat pos), .unset, .unset] [(.int ((Int32.ofNat nb) - (Int32.ofNat pos))), (.int (Int32.ofNat (pos + 1))), .ref bk, .int (Int32.ofNat pos), .ref bk] _
   rw [show ((Int32.ofNat nb) - (Int32.ofNat pos)) = (Int32.ofNat (nb - pos)) from (own_sub hpos)]
   exact kt)
  obtain ⟨T385, h385, L385, X385, e385, N385, K385, B385, ls385⟩ := own_cp X382 hx hZ hown (own_w hw 61 rfl) (own_w hw 64 rfl) (own_w hw 62 rfl) (own_w hw 63 rfl) e382 (ty := .int) rfl A_bk A_bk (fun _ _ => rfl) (fun _ _ => rfl) (i := pos) (j := (pos + 1)) (k := (nb - pos)) (pp.2) (pp.1) ((own_nat32 (by omega)).2) ((own_nat32 (by omega)).1) ((own_nat32 (by omega)).2) ((own_nat32 (by omega)).1) (by omega) (by omega) N0 g_bk (g := (mkF m 113 #[rv ao, iv ukey, iv (Int32.ofNat pos), .unset, .unset] [(.int (Int32.ofNat (nb - pos))), (.int (Int32.ofNat (pos + 1))), .ref bk, .int (Int32.ofNat pos), .ref bk])) rfl (by rw [hml]; rfl) rfl (hb hby d10_113) (by decide) (W := 0) (by show 2 * 0 + _ ≤ _; exact Nat.le_of_eq rfl) (by decide)
  have f386 := E_ao.keep K385
  have f387 := F_bl.keep K385 (ninS ne_ao_bk nin0)
  have f388 := F_ct.keep K385 (ninS ne_ao_bk nin0)
  have f389 := F_lk.keep K385 (ninS ne_ao_bk nin0)
  have f390 := F_lp.keep K385 (ninS ne_ao_bk nin0)
  have f391 := F_ke.keep K385 (ninS ne_ao_bk nin0)
  have f392 := F_sl.keep K385 (ninS ne_ao_bk nin0)
  have f393 := F_ch.keep K385 (ninS ne_ao_bk nin0)
  have f394 := F_pe.keep K385 (ninS ne_ao_bk nin0)
  have f395 := F_pc.keep K385 (ninS ne_ao_bk nin0)
  have f397 := A_bl.keep K385 (ninS (Ne.symm ne_bk_bl) nin0)
  have f398 := A_bc.keep K385 (ninS (Ne.symm ne_bk_bc) nin0)
  have f399 := A_bp.keep K385 (ninS (Ne.symm ne_bk_bp) nin0)
  have f400 := A_bq.keep K385 (ninS (Ne.symm ne_bk_bq) nin0)
  have f401 := H_pf.keepA K385 A_bk (by decide)
  have f402 := S0.keep K385 (allS (P := fun x => n0 ≤ x) g_bk all0)
  have z403 := Nat.le_trans Z0 K385.1
  have f404 : own_Av Z h385 bk .int cap (fun q => .int (if pos + 1 ≤ q ∧ q < pos + 1 + (nb - pos) then (K) (pos + (q - (pos + 1))) else (K) q)) := B385.congr (fun q hq => (apply_ite Value.int _ _ _).symm)
  have st405 := fun t kt => st384 t (ls385 t kt)
  have st406 : own_K p e below T385 m 117 #[rv ao, iv ukey, iv (Int32.ofNat pos), .unset, .unset] [.ref ao] B0 := fun t kt => st405 t (by
   refine XS.aloadN X385.here hx rfl (hb hby d10_116) rfl rfl ?_
   exact kt)
  obtain ⟨T407, X407, e407, ls407⟩ := getF X385 hx hZ hown (host := "") (Or.inl (own_w hw 23 rfl)) Via.refl e385 f392 (g := (mkF m 117 #[rv ao, iv ukey, iv (Int32.ofNat pos), .unset, .unset] [.ref ao])) rfl rfl (hb hby d10_117)
  have st408 := fun t kt => st406 t (ls407 t kt)
  have st409 : own_K p e below T407 m 122 #[rv ao, iv ukey, iv (Int32.ofNat pos), .unset, .unset] [.ref ao, .int (Int32.ofNat pos), .ref bl] B0 := fun t kt => st408 t (by
   refine XS.iloadN X407.here hx rfl (hb hby d10_120) rfl ?_
   refine XS.aloadN X407.here hx rfl (hb hby d10_121) rfl rfl ?_
   exact kt)
  obtain ⟨T410, X410, e410, ls410⟩ := getF X407 hx hZ hown (host := "") (Or.inl (own_w hw 23 rfl)) Via.refl e407 f392 (g := (mkF m 122 #[rv ao, iv ukey, iv (Int32.ofNat pos), .unset, .unset] [.ref ao, .int (Int32.ofNat pos), .ref bl])) rfl rfl (hb hby d10_122)
  have st411 := fun t kt => st409 t (ls410 t kt)
  have st412 : own_K p e below T410 m 129 #[rv ao, iv ukey, iv (Int32.ofNat pos), .unset, .unset] [.ref ao, (.int (Int32.ofNat (pos + 1))), .ref bl, .int (Int32.ofNat pos), .ref bl] B0 := fun t kt => st411 t (by
   refine XS.iloadN X410.here hx rfl (hb hby d10_125) rfl ?_
   refine XS.iconst X410.here hx rfl (hb hby d10_126) ?_
   refine XS.iadd X410.here hx rfl (hb hby d10_127) rfl ?_
   show own_At p e below T410 m 128 #[rv ao, iv ukey, iv (Int32.ofNat pos), .unset, .unset] [(.int ((Int32.ofNat pos) + (1 : Int32))), .ref bl, .int (Int32.ofNat pos), .ref bl] _
   rw [show ((Int32.ofNat pos) + (1 : Int32)) = (Int32.ofNat (pos + 1)) from (own_up1 pos)]
   refine XS.aloadN X410.here hx rfl (hb hby d10_128) rfl rfl ?_
   exact kt)
  obtain ⟨T413, X413, e413, ls413⟩ := getF X410 hx hZ hown (host := "") (Or.inl (own_w hw 45 rfl)) Via.refl e410 f387 (g := (mkF m 129 #[rv ao, iv ukey, iv (Int32.ofNat pos), .unset, .unset] [.ref ao, (.int (Int32.ofNat (pos + 1))), .ref bl, .int (Int32.ofNat pos), .ref bl])) rfl rfl (hb hby d10_129)
  have st414 := fun t kt => st412 t (ls413 t kt)
  have st415 : own_K p e below T413 m 134 #[rv ao, iv ukey, iv (Int32.ofNat pos), .unset, .unset] [(.int (Int32.ofNat (nb - pos))), (.int (Int32.ofNat (pos + 1))), .ref bl, .int (Int32.ofNat pos), .ref bl] B0 := fun t kt => st414 t (by
   refine XS.iloadN X413.here hx rfl (hb hby d10_132) rfl ?_
   refine XS.isub X413.here hx rfl (hb hby d10_133) rfl ?_
   show own_At p e below T413 m 134 #[rv ao, iv ukey, iv (Int32.ofNat pos), .unset, .unset] [(.int ((Int32.ofNat nb) - (Int32.ofNat pos))), (.int (Int32.ofNat (pos + 1))), .ref bl, .int (Int32.ofNat pos), .ref bl] _
   rw [show ((Int32.ofNat nb) - (Int32.ofNat pos)) = (Int32.ofNat (nb - pos)) from (own_sub hpos)]
   exact kt)
  obtain ⟨T416, h416, L416, X416, e416, N416, K416, B416, ls416⟩ := own_cp X413 hx hZ hown (own_w hw 61 rfl) (own_w hw 64 rfl) (own_w hw 62 rfl) (own_w hw 63 rfl) e413 (ty := .int) rfl f397 f397 (fun _ _ => rfl) (fun _ _ => rfl) (i := pos) (j := (pos + 1)) (k := (nb - pos)) (pp.2) (pp.1) ((own_nat32 (by omega)).2) ((own_nat32 (by omega)).1) ((own_nat32 (by omega)).2) ((own_nat32 (by omega)).1) (by omega) (by omega) N385 g_bl (g := (mkF m 134 #[rv ao, iv ukey, iv (Int32.ofNat pos), .unset, .unset] [(.int (Int32.ofNat (nb - pos))), (.int (Int32.ofNat (pos + 1))), .ref bl, .int (Int32.ofNat pos), .ref bl])) rfl (by rw [hml]; rfl) rfl (hb hby d10_134) (by decide) (W := 0) (by show 2 * 0 + _ ≤ _; exact Nat.le_of_eq rfl) (by decide)
  have f417 := f386.keep K416
  have f418 := f387.keep K416 (ninS ne_ao_bl nin0)
  have f419 := f388.keep K416 (ninS ne_ao_bl nin0)
  have f420 := f389.keep K416 (ninS ne_ao_bl nin0)
  have f421 := f390.keep K416 (ninS ne_ao_bl nin0)
  have f422 := f391.keep K416 (ninS ne_ao_bl nin0)
  have f423 := f392.keep K416 (ninS ne_ao_bl nin0)
  have f424 := f393.keep K416 (ninS ne_ao_bl nin0)
  have f425 := f394.keep K416 (ninS ne_ao_bl nin0)
  have f426 := f395.keep K416 (ninS ne_ao_bl nin0)
  have f428 := f398.keep K416 (ninS (Ne.symm ne_bl_bc) nin0)
  have f429 := f399.keep K416 (ninS (Ne.symm ne_bl_bp) nin0)
  have f430 := f400.keep K416 (ninS (Ne.symm ne_bl_bq) nin0)
  have f431 := f401.keepA K416 f397 (by decide)
  have f432 := f402.keep K416 (allS (P := fun x => n0 ≤ x) g_bl all0)
  have f433 := f404.keep K416 (ninS ne_bk_bl nin0)
  have z434 := Nat.le_trans z403 K416.1
  have f435 : own_Av Z h416 bl .int cap (fun q => .int (Int32.ofNat (if pos + 1 ≤ q ∧ q < pos + 1 + (nb - pos) then (S) (pos + (q - (pos + 1))) else (S) q))) := B416.congr (fun q hq => by by_cases z : pos + 1 ≤ q ∧ q < pos + 1 + (nb - pos) <;> simp [z])
  have st436 := fun t kt => st415 t (ls416 t kt)
  have st437 : own_K p e below T416 m 138 #[rv ao, iv ukey, iv (Int32.ofNat pos), .unset, .unset] [.ref ao] B0 := fun t kt => st436 t (by
   refine XS.aloadN X416.here hx rfl (hb hby d10_137) rfl rfl ?_
   exact kt)
  obtain ⟨T438, X438, e438, ls438⟩ := getF X416 hx hZ hown (host := "") (Or.inl (own_w hw 21 rfl)) Via.refl e416 f422 (g := (mkF m 138 #[rv ao, iv ukey, iv (Int32.ofNat pos), .unset, .unset] [.ref ao])) rfl rfl (hb hby d10_138)
  have st439 := fun t kt => st437 t (ls438 t kt)
  have st440 : own_K p e below T438 m 143 #[rv ao, iv ukey, iv (Int32.ofNat pos), .unset, .unset] [.int ukey, .int (Int32.ofNat pos), .ref bk] B0 := fun t kt => st439 t (by
   refine XS.iloadN X438.here hx rfl (hb hby d10_141) rfl ?_
   refine XS.iloadN X438.here hx rfl (hb hby d10_142) rfl ?_
   exact kt)
  obtain ⟨T441, h441, X441, e441, W441, B441, ls441⟩ := own_iastore X438 hx hZ e438 f433 (j := (Int32.ofNat pos)) (i := pos) (pp.2) (pp.1) (by omega) (g := (mkF m 143 #[rv ao, iv ukey, iv (Int32.ofNat pos), .unset, .unset] [.int ukey, .int (Int32.ofNat pos), .ref bk])) rfl rfl (hb hby d10_143)
  have N441 := Fr.snoc X441 N416 g_bk
  have f442 := f417.wr W441
  have f443 := f418.other W441 (Or.inl ne_ao_bk)
  have f444 := f419.other W441 (Or.inl ne_ao_bk)
  have f445 := f420.other W441 (Or.inl ne_ao_bk)
  have f446 := f421.other W441 (Or.inl ne_ao_bk)
  have f447 := f422.other W441 (Or.inl ne_ao_bk)
  have f448 := f423.other W441 (Or.inl ne_ao_bk)
  have f449 := f424.other W441 (Or.inl ne_ao_bk)
  have f450 := f425.other W441 (Or.inl ne_ao_bk)
  have f451 := f426.other W441 (Or.inl ne_ao_bk)
  have f452 := f428.other W441 (Ne.symm ne_bk_bc)
  have f453 := f429.other W441 (Ne.symm ne_bk_bp)
  have f454 := f430.other W441 (Ne.symm ne_bk_bq)
  have f455 := f431.wrA W441 f433 (by decide)
  have f456 := f432.wr W441 g_bk
  have f457 := f435.other W441 (Ne.symm ne_bk_bl)
  have z458 := Nat.le_trans z434 (Keep.of_wr W441).1
  have f459 := B441.congr (g := (fun q => .int ((fun q => if q = pos then ukey else if pos + 1 ≤ q ∧ q < pos + 1 + (nb - pos) then (K) (pos + (q - (pos + 1))) else (K) q) q))) (fun q hq => (apply_ite Value.int _ _ _).symm)
  have st460 := fun t kt => st440 t (ls441 t kt)
  have st461 : own_K p e below T441 m 145 #[rv ao, iv ukey, iv (Int32.ofNat pos), .unset, .unset] [.ref ao] B0 := fun t kt => st460 t (by
   refine XS.aloadN X441.here hx rfl (hb hby d10_144) rfl rfl ?_
   exact kt)
  obtain ⟨T462, X462, e462, ls462⟩ := getF X441 hx hZ hown (host := "") (Or.inl (own_w hw 23 rfl)) Via.refl e441 f448 (g := (mkF m 145 #[rv ao, iv ukey, iv (Int32.ofNat pos), .unset, .unset] [.ref ao])) rfl rfl (hb hby d10_145)
  have st463 := fun t kt => st461 t (ls462 t kt)
  have st464 : own_K p e below T462 m 150 #[rv ao, iv ukey, iv (Int32.ofNat pos), .unset, .unset] [.ref ao, .int (Int32.ofNat pos), .ref bl] B0 := fun t kt => st463 t (by
   refine XS.iloadN X462.here hx rfl (hb hby d10_148) rfl ?_
   refine XS.aloadN X462.here hx rfl (hb hby d10_149) rfl rfl ?_
   exact kt)
  obtain ⟨T465, X465, e465, ls465⟩ := getF X462 hx hZ hown (host := "") (Or.inl (own_w hw 45 rfl)) Via.refl e462 f443 (g := (mkF m 150 #[rv ao, iv ukey, iv (Int32.ofNat pos), .unset, .unset] [.ref ao, .int (Int32.ofNat pos), .ref bl])) rfl rfl (hb hby d10_150)
  have st466 := fun t kt => st464 t (ls465 t kt)
  obtain ⟨T467, h467, X467, e467, W467, B467, ls467⟩ := own_iastore X465 hx hZ e465 f457 (j := (Int32.ofNat pos)) (i := pos) (pp.2) (pp.1) (by omega) (g := (mkF m 153 #[rv ao, iv ukey, iv (Int32.ofNat pos), .unset, .unset] [.int (Int32.ofNat nb), .int (Int32.ofNat pos), .ref bl])) rfl rfl (hb hby d10_153)
  have N467 := Fr.snoc X467 N441 g_bl
  have f468 := f442.wr W467
  have f469 := f443.other W467 (Or.inl ne_ao_bl)
  have f470 := f444.other W467 (Or.inl ne_ao_bl)
  have f471 := f445.other W467 (Or.inl ne_ao_bl)
  have f472 := f446.other W467 (Or.inl ne_ao_bl)
  have f473 := f447.other W467 (Or.inl ne_ao_bl)
  have f474 := f448.other W467 (Or.inl ne_ao_bl)
  have f475 := f449.other W467 (Or.inl ne_ao_bl)
  have f476 := f450.other W467 (Or.inl ne_ao_bl)
  have f477 := f451.other W467 (Or.inl ne_ao_bl)
  have f478 := f452.other W467 (Ne.symm ne_bl_bc)
  have f479 := f453.other W467 (Ne.symm ne_bl_bp)
  have f480 := f454.other W467 (Ne.symm ne_bl_bq)
  have f481 := f455.wrA W467 f457 (by decide)
  have f482 := f456.wr W467 g_bl
  have f483 := f459.other W467 ne_bk_bl
  have z484 := Nat.le_trans z458 (Keep.of_wr W467).1
  have f485 := B467.congr (g := (fun q => .int (Int32.ofNat ((fun q => if q = pos then nb else if pos + 1 ≤ q ∧ q < pos + 1 + (nb - pos) then (S) (pos + (q - (pos + 1))) else (S) q) q)))) (fun q hq => by by_cases z : q = pos <;> simp [z])
  have st486 := fun t kt => st466 t (ls467 t kt)
  have st487 : own_K p e below T467 m 156 #[rv ao, iv ukey, iv (Int32.ofNat pos), .unset, .unset] [.ref ao, .ref ao] B0 := fun t kt => st486 t (by
   refine XS.aloadN X467.here hx rfl (hb hby d10_154) rfl rfl ?_
   refine XS.dup X467.here hx rfl (hb hby d10_155) rfl rfl ?_
   exact kt)
  obtain ⟨T488, X488, e488, ls488⟩ := getF X467 hx hZ hown (host := "") (Or.inl (own_w hw 45 rfl)) Via.refl e467 f469 (g := (mkF m 156 #[rv ao, iv ukey, iv (Int32.ofNat pos), .unset, .unset] [.ref ao, .ref ao])) rfl rfl (hb hby d10_156)
  have st489 := fun t kt => st487 t (ls488 t kt)
  have st490 : own_K p e below T488 m 161 #[rv ao, iv ukey, iv (Int32.ofNat pos), .unset, .unset] [(.int (Int32.ofNat (nb + 1))), .ref ao] B0 := fun t kt => st489 t (by
   refine XS.iconst X488.here hx rfl (hb hby d10_159) ?_
   refine XS.iadd X488.here hx rfl (hb hby d10_160) rfl ?_
   show own_At p e below T488 m 161 #[rv ao, iv ukey, iv (Int32.ofNat pos), .unset, .unset] [(.int ((Int32.ofNat nb) + (1 : Int32))), .ref ao] _
   rw [show ((Int32.ofNat nb) + (1 : Int32)) = (Int32.ofNat (nb + 1)) from (own_up1 nb)]
   exact kt)
  obtain ⟨T491, h491, X491, e491, W491, ls491⟩ := putF X488 hx hZ hown (host := "") (Or.inl (own_w hw 45 rfl)) Via.refl e488 f469 f468 (Or.inl (own_w hw 46 rfl)) (own_w hw 11 rfl) (ty := .int) (by decide) rfl rfl (g := (mkF m 161 #[rv ao, iv ukey, iv (Int32.ofNat pos), .unset, .unset] [(.int (Int32.ofNat (nb + 1))), .ref ao])) rfl rfl (hb hby d10_161)
  have N491 := Fr.snoc X491 N467 g_ao
  have f492 := f468.wr W491
  have f493 := f469.same W491
  have f494 := f470.other W491 (Or.inr (own_s29_46 hw))
  have f495 := f471.other W491 (Or.inr (own_s20_46 hw))
  have f496 := f472.other W491 (Or.inr (own_s66_46 hw))
  have f497 := f473.other W491 (Or.inr (own_s22_46 hw))
  have f498 := f474.other W491 (Or.inr (own_s24_46 hw))
  have f499 := f475.other W491 (Or.inr (own_s26_46 hw))
  have f500 := f476.other W491 (Or.inr (own_s33_46 hw))
  have f501 := f477.other W491 (Or.inr (own_s35_46 hw))
  have f502 := f478.other W491 (Ne.symm ne_ao_bc)
  have f503 := f479.other W491 (Ne.symm ne_ao_bp)
  have f504 := f480.other W491 (Ne.symm ne_ao_bq)
  have f505 := f481.wrO W491 f468 (by decide)
  have f506 := f482.wr W491 g_ao
  have f507 := f483.other W491 (Ne.symm ne_ao_bk)
  have f508 := f485.other W491 (Ne.symm ne_ao_bl)
  have z509 := Nat.le_trans z484 (Keep.of_wr W491).1
  have st510 := fun t kt => st490 t (ls491 t kt)
  have st511 : own_K p e below T491 m 166 #[rv ao, iv ukey, iv (Int32.ofNat pos), .unset, .unset] [.int ukey, .ref ao] B0 := fun t kt => st510 t (by
   refine XS.aloadN X491.here hx rfl (hb hby d10_164) rfl rfl ?_
   refine XS.iloadN X491.here hx rfl (hb hby d10_165) rfl ?_
   exact kt)
  obtain ⟨T512, h512, X512, e512, W512, ls512⟩ := putF X491 hx hZ hown (host := "") (Or.inl (own_w hw 19 rfl)) Via.refl e491 f495 f492 (Or.inl (own_w hw 20 rfl)) (own_w hw 11 rfl) (ty := .int) (by decide) rfl rfl (g := (mkF m 166 #[rv ao, iv ukey, iv (Int32.ofNat pos), .unset, .unset] [.int ukey, .ref ao])) rfl rfl (hb hby d10_166)
  have N512 := Fr.snoc X512 N491 g_ao
  have f513 := f492.wr W512
  have f514 := f493.other W512 (Or.inr (own_s46_20 hw))
  have f515 := f494.other W512 (Or.inr (own_s29_20 hw))
  have f516 := f495.same W512
  have f517 := f496.other W512 (Or.inr (own_s66_20 hw))
  have f518 := f497.other W512 (Or.inr (own_s22_20 hw))
  have f519 := f498.other W512 (Or.inr (own_s24_20 hw))
  have f520 := f499.other W512 (Or.inr (own_s26_20 hw))
  have f521 := f500.other W512 (Or.inr (own_s33_20 hw))
  have f522 := f501.other W512 (Or.inr (own_s35_20 hw))
  have f523 := f502.other W512 (Ne.symm ne_ao_bc)
  have f524 := f503.other W512 (Ne.symm ne_ao_bp)
  have f525 := f504.other W512 (Ne.symm ne_ao_bq)
  have f526 := f505.wrO W512 f492 (by decide)
  have f527 := f506.wr W512 g_ao
  have f528 := f507.other W512 (Ne.symm ne_ao_bk)
  have f529 := f508.other W512 (Ne.symm ne_ao_bl)
  have z530 := Nat.le_trans z509 (Keep.of_wr W512).1
  have st531 := fun t kt => st511 t (ls512 t kt)
  have st532 : own_K p e below T512 m 171 #[rv ao, iv ukey, iv (Int32.ofNat pos), .unset, .unset] [.int (Int32.ofNat pos), .ref ao] B0 := fun t kt => st531 t (by
   refine XS.aloadN X512.here hx rfl (hb hby d10_169) rfl rfl ?_
   refine XS.iloadN X512.here hx rfl (hb hby d10_170) rfl ?_
   exact kt)
  obtain ⟨T533, h533, X533, e533, W533, ls533⟩ := putF X512 hx hZ hown (host := "") (Or.inl (own_w hw 65 rfl)) Via.refl e512 f517 f513 (Or.inl (own_w hw 66 rfl)) (own_w hw 11 rfl) (ty := .int) (by decide) rfl rfl (g := (mkF m 171 #[rv ao, iv ukey, iv (Int32.ofNat pos), .unset, .unset] [.int (Int32.ofNat pos), .ref ao])) rfl rfl (hb hby d10_171)
  have N533 := Fr.snoc X533 N512 g_ao
  have f534 := f513.wr W533
  have f535 := f514.other W533 (Or.inr (own_s46_66 hw))
  have f536 := f515.other W533 (Or.inr (own_s29_66 hw))
  have f537 := f516.other W533 (Or.inr (own_s20_66 hw))
  have f538 := f517.same W533
  have f539 := f518.other W533 (Or.inr (own_s22_66 hw))
  have f540 := f519.other W533 (Or.inr (own_s24_66 hw))
  have f541 := f520.other W533 (Or.inr (own_s26_66 hw))
  have f542 := f521.other W533 (Or.inr (own_s33_66 hw))
  have f543 := f522.other W533 (Or.inr (own_s35_66 hw))
  have f544 := f523.other W533 (Ne.symm ne_ao_bc)
  have f545 := f524.other W533 (Ne.symm ne_ao_bp)
  have f546 := f525.other W533 (Ne.symm ne_ao_bq)
  have f547 := f526.wrO W533 f513 (by decide)
  have f548 := f527.wr W533 g_ao
  have f549 := f528.other W533 (Ne.symm ne_ao_bk)
  have f550 := f529.other W533 (Ne.symm ne_ao_bl)
  have z551 := Nat.le_trans z530 (Keep.of_wr W533).1
  have st552 := fun t kt => st532 t (ls533 t kt)
  have st553 : own_K p e below T533 m 175 #[rv ao, iv ukey, iv (Int32.ofNat pos), .unset, .unset] [.int (Int32.ofNat pos)] B0 := fun t kt => st552 t (by
   refine XS.iloadN X533.here hx rfl (hb hby d10_174) rfl ?_
   exact kt)
  obtain ⟨fs, hr, hrun, hended, hW, hsame⟩ := X533.leave (v := (some (.int (Int32.ofNat pos)))) (fun h => by rw [Bd.returns] at h; cases h)
  subst hB0
  refine ⟨_, _, st553 _ ?_, hrun, hended, _, _, rfl, ?_, ⟨_, rfl⟩, hW, hsame.mono (by decide) (by decide)⟩
  ·exact retOut X533 hx Bd.returns rfl (Or.inl ⟨rfl, Or.inl rfl, _, rfl⟩) (hb hby d10_175) hr
  ·show Q_rm_insert Z ao ukey nb cap K S Ch ct lk ev pos h0 n0 _ T533.heap _
   rw [e533]
   exact ⟨rfl, N533, z551, f548, cap, _, _, _, _, by omega, by omega, ⟨f534, f535, f536, f537, ⟨_, f538⟩, bk, bl, bc, bp, bq, by
    intro x hx
    simp only [List.mem_cons, List.not_mem_nil, or_false] at hx
    rcases hx with rfl | rfl | rfl | rfl | rfl | rfl
    ·exact g_ao
    ·exact g_bk
    ·exact g_bl
    ·exact g_bc
    ·exact g_bp
    ·exact g_bq, by simp [ne_ao_bk, ne_ao_bl, ne_ao_bc, ne_ao_bp, ne_ao_bq, ne_bk_bl, ne_bk_bc, ne_bk_bp, ne_bk_bq, ne_bl_bc, ne_bl_bp, ne_bl_bq, ne_bc_bp, ne_bc_bq, ne_bp_bq], f539, f540, f541, f542, f543, f549, f550, f544, ⟨pf, f545, f547⟩, _, f546⟩, own_ins_ok (cap := cap) hpos (by omega) (fun q hq => rfl) (fun q hq => rfl) (fun x hx => rfl) hz⟩
def Q_rm_bs0_0 (Z : State) (ak : Addr) (key : Int32) (cap : Nat) (K : Nat → Int32) (h0 : Heap) (n0 : Nat) (v : Option Value) (h : Heap) (L : List Loc) : Prop := ∃ r, v = some (.int r) ∧ own_Pos 0 K key r ∧ Fr n0 L ∧ h = h0
set_option maxRecDepth 65536 in
set_option maxHeartbeats 40000000 in
theorem rm_bs0_0 (l : Launch) (Z : State) (a0 : Array Value) (hw : ∀ d ∈ tables_1, d.before a0 Z = true) (ws : List Jvm.Cond) (ak : Addr) (key : Int32) (cap : Nat) (K : Nat → Int32) (h0 : Heap) (n0 : Nat) (Z0 : n0 ≤ h0.size) (Ak : own_Av Z h0 ak .int cap (fun q => .int (K q))) (hcap : 0 ≤ cap) (hasc : 0 = 2 → K 0 < K 1) :
  MetFree l (⟨"java/util/Arrays", "binarySearch0", "([IIII)I"⟩ : MethodName) (head1 (Jvm.Cond.code (⟨"java/util/Arrays", "binarySearch0", "([IIII)I"⟩ : MethodName) jdk_65_method_59_code 8 (some .int) :: ws) ({ frames := 0, cells := 0, slots := 0, locals := 0 } : Room)) (fun a U => a = #[.ref ak, .int 0, .int 0, .int key] ∧ Z.Warmed39 U.vm ∧ U.heap = h0) (fun _ _ _ _ _ => True) (fun _ U o U' => ∃ v L, o = .returned v ∧ Q_rm_bs0_0 Z ak key cap K h0 n0 v U'.heap L ∧ FrameEnd U o U' L ({ frames := 0, cells := 0, slots := 0, locals := 0 } : Room).cells ({ frames := 0, cells := 0, slots := 0, locals := 0 } : Room).slots) := by
 refine MetFree.of_bodySF (plainFor_of_name own_pn0) hisR ?_
 intro p e s m args below meth c s₁ Bd hml0 hP hK
 obtain ⟨rfl, hZ, hh⟩ := hP
 have hx := Bd.exec
 have hby := Bd.bytes
 have hml : c.maxLocals = 8 := hml0
 have hown : s.vm.findClass "java/util/Arrays" = some m.cls := findClass_of_methodNamed Bd.named
 have hnm := (name_of_methodNamed Bd.named Bd.method).1
 have X0 : Stand p l e ({ frames := 0, cells := 0, slots := 0, locals := 0 } : Room) s m #[.ref ak, .int 0, .int 0, .int key] below meth c s₁ [] 0 0 := Stand.of_body Bd
 have e0 : s₁.heap = h0 := by rw [← hh, Bd.state]; rfl
 have N0 := Fr.nil n0
 obtain ⟨B0, hB0⟩ : ∃ B, B = (s₁.setTop (entryFrame m #[.ref ak, .int 0, .int 0, .int key] 8)) := ⟨_, rfl⟩
 have st0 : own_K p e below s₁ m 0 #[rv ak, iv 0, iv 0, iv key, .unset, .unset, .unset, .unset] [] B0 := fun t kk0 => hB0 ▸ castTop (own_ef9_RIII m ak (0 : Int32) (0 : Int32) key) kk0
 have hc1 : (-1 : Int32) < (0 : Int32) := by decide
 have st2 : own_K p e below s₁ m 71 #[rv ak, iv 0, iv 0, iv key, iv 0, iv (-1 : Int32), .unset, .unset] [(.int (-((0 : Int32) + (1 : Int32))))] B0 := fun t kt => st0 t (by
  refine XS.iloadN X0.here hx rfl (hb hby d9_0) rfl ?_
  refine XS.istore X0.here hx rfl (hb hby d9_1) rfl (l' := #[rv ak, iv 0, iv 0, iv key, iv 0, .unset, .unset, .unset]) rfl ?_
  refine XS.iloadN X0.here hx rfl (hb hby d9_3) rfl ?_
  refine XS.iconst X0.here hx rfl (hb hby d9_4) ?_
  refine XS.isub X0.here hx rfl (hb hby d9_5) rfl ?_
  show own_At p e below s₁ m 6 #[rv ak, iv 0, iv 0, iv key, iv 0, .unset, .unset, .unset] [(.int ((0 : Int32) - (1 : Int32)))] _
  rw [show ((0 : Int32) - (1 : Int32)) = (-1 : Int32) from (by decide +kernel)]
  refine XS.istore X0.here hx rfl (hb hby d9_6) rfl (l' := #[rv ak, iv 0, iv 0, iv key, iv 0, iv (-1 : Int32), .unset, .unset]) rfl ?_
  refine XS.iload X0.here hx rfl (hb hby d9_8) rfl ?_
  refine XS.iload X0.here hx rfl (hb hby d9_10) rfl ?_
  refine XS.icmpYes X0.here hx rfl (pc0 := 12) (pc' := 66) rfl (hb hby d9_12) rfl (tlt hc1).2.2.1 (by decide) (by decide) ?_
  refine XS.iload X0.here hx rfl (hb hby d9_66) rfl ?_
  refine XS.iconst X0.here hx rfl (hb hby d9_68) ?_
  refine XS.iadd X0.here hx rfl (hb hby d9_69) rfl ?_
  refine XS.ineg X0.here hx rfl (hb hby d9_70) rfl ?_
  exact kt)
 obtain ⟨fs, hr, hrun, hended, hW, hsame⟩ := X0.leave (v := (some (.int (-((0 : Int32) + (1 : Int32)))))) (fun h => by rw [Bd.returns] at h; cases h)
 subst hB0
 refine ⟨_, _, st2 _ ?_, hrun, hended, _, _, rfl, ?_, ⟨_, rfl⟩, hW, hsame.mono (by decide) (by decide)⟩
 ·exact retOut X0 hx Bd.returns rfl (Or.inl ⟨rfl, Or.inl rfl, _, rfl⟩) (hb hby d9_71) hr
 ·show Q_rm_bs0_0 Z ak key cap K h0 n0 _ s₁.heap _
  rw [e0]
  exact ⟨_, rfl, Or.inr ⟨0, by decide, by decide, fun j hj => absurd hj (Nat.not_lt_zero _), fun j h1 h2 => absurd h2 (Nat.not_lt_zero _)⟩, N0, rfl⟩
def Q_rm_rc_0 (Z : State) (ul : Int32) (h0 : Heap) (n0 : Nat) (v : Option Value) (h : Heap) (L : List Loc) : Prop := v = none ∧ Fr n0 L ∧ h = h0
set_option maxRecDepth 65536 in
set_option maxHeartbeats 40000000 in
theorem rm_rc_0 (l : Launch) (Z : State) (a0 : Array Value) (hw : ∀ d ∈ tables_1, d.before a0 Z = true) (ws : List Jvm.Cond) (ul : Int32) (h0 : Heap) (n0 : Nat) (Z0 : n0 ≤ h0.size) (hul : ¬ ul < 0) :
  MetFree l (⟨"java/util/Arrays", "rangeCheck", "(III)V"⟩ : MethodName) (head1 (Jvm.Cond.code (⟨"java/util/Arrays", "rangeCheck", "(III)V"⟩ : MethodName) jdk_65_method_30_code 3 none :: ws) ({ frames := 0, cells := 0, slots := 0, locals := 0 } : Room)) (fun a U => a = #[.int ul, .int 0, .int 0] ∧ Z.Warmed39 U.vm ∧ U.heap = h0) (fun _ _ _ _ _ => True) (fun _ U o U' => ∃ v L, o = .returned v ∧ Q_rm_rc_0 Z ul h0 n0 v U'.heap L ∧ FrameEnd U o U' L ({ frames := 0, cells := 0, slots := 0, locals := 0 } : Room).cells ({ frames := 0, cells := 0, slots := 0, locals := 0 } : Room).slots) := by
 refine MetFree.of_bodySF (plainFor_of_name own_pn0) hisR ?_
 intro p e s m args below meth c s₁ Bd hml0 hP hK
 obtain ⟨rfl, hZ, hh⟩ := hP
 have hx := Bd.exec
 have hby := Bd.bytes
 have hml : c.maxLocals = 3 := hml0
 have hown : s.vm.findClass "java/util/Arrays" = some m.cls := findClass_of_methodNamed Bd.named
 have hnm := (name_of_methodNamed Bd.named Bd.method).1
 have X0 : Stand p l e ({ frames := 0, cells := 0, slots := 0, locals := 0 } : Room) s m #[.int ul, .int 0, .int 0] below meth c s₁ [] 0 0 := Stand.of_body Bd
 have e0 : s₁.heap = h0 := by rw [← hh, Bd.state]; rfl
 have N0 := Fr.nil n0
 obtain ⟨B0, hB0⟩ : ∃ B, B = (s₁.setTop (entryFrame m #[.int ul, .int 0, .int 0] 3)) := ⟨_, rfl⟩
 have st0 : own_K p e below s₁ m 0 #[iv ul, iv 0, iv 0] [] B0 := fun t kk0 => hB0 ▸ castTop (own_ef8_III m ul (0 : Int32) (0 : Int32)) kk0
 have hc1 : ¬ ((0 : Int32) < (0 : Int32)) := by decide
 have hc2 : ¬ ((0 : Int32) < (0 : Int32)) := by decide
 have hc3 : ¬ (ul < (0 : Int32)) := hul
 have st4 : own_K p e below s₁ m 73 #[iv ul, iv 0, iv 0] [] B0 := fun t kt => st0 t (by
  refine XS.iloadN X0.here hx rfl (hb hby d8_0) rfl ?_
  refine XS.iloadN X0.here hx rfl (hb hby d8_1) rfl ?_
  refine XS.icmpYes X0.here hx rfl (pc0 := 2) (pc' := 46) rfl (hb hby d8_2) rfl (flt hc1).2.2.2 (by decide) (by decide) ?_
  refine XS.iloadN X0.here hx rfl (hb hby d8_46) rfl ?_
  refine XS.ifYes X0.here hx rfl (pc0 := 47) (pc' := 59) rfl (hb hby d8_47) rfl ((if0 _ _).trans (flt hc2).2.1) (by decide) (by decide) ?_
  refine XS.iloadN X0.here hx rfl (hb hby d8_59) rfl ?_
  refine XS.iloadN X0.here hx rfl (hb hby d8_60) rfl ?_
  refine XS.icmpYes X0.here hx rfl (pc0 := 61) (pc' := 73) rfl (hb hby d8_61) rfl (flt hc3).2.2.2 (by decide) (by decide) ?_
  exact kt)
 obtain ⟨fs, hr, hrun, hended, hW, hsame⟩ := X0.leave (v := none) (fun _ => rfl)
 subst hB0
 refine ⟨_, _, st4 _ ?_, hrun, hended, _, _, rfl, ?_, ⟨_, rfl⟩, hW, hsame.mono (by decide) (by decide)⟩
 ·exact X0.returnOut hx Bd.returns (hb hby d8_73) hr
 ·show Q_rm_rc_0 Z ul h0 n0 _ s₁.heap _
  rw [e0]
  exact ⟨rfl, N0, rfl⟩
def Q_rm_bs_0 (Z : State) (ak : Addr) (key : Int32) (cap : Nat) (K : Nat → Int32) (h0 : Heap) (n0 : Nat) (v : Option Value) (h : Heap) (L : List Loc) : Prop := ∃ r, v = some (.int r) ∧ own_Pos 0 K key r ∧ Fr n0 L ∧ h = h0
set_option maxRecDepth 65536 in
set_option maxHeartbeats 40000000 in
theorem rm_bs_0 (l : Launch) (Z : State) (a0 : Array Value) (hw : ∀ d ∈ tables_1, d.before a0 Z = true) (ws : List Jvm.Cond) (ak : Addr) (key : Int32) (cap : Nat) (K : Nat → Int32) (h0 : Heap) (n0 : Nat) (Z0 : n0 ≤ h0.size) (Ak : own_Av Z h0 ak .int cap (fun q => .int (K q))) (hcap : 0 ≤ cap) (hasc : 0 = 2 → K 0 < K 1) :
  MetFree l (⟨"java/util/Arrays", "binarySearch", "([IIII)I"⟩ : MethodName) (head1 (Jvm.Cond.code (⟨"java/util/Arrays", "binarySearch", "([IIII)I"⟩ : MethodName) jdk_65_method_58_code 4 (some .int) :: ws) ({ frames := 1, cells := 0, slots := 0, locals := 19 } : Room)) (fun a U => a = #[.ref ak, .int 0, .int 0, .int key] ∧ Z.Warmed39 U.vm ∧ U.heap = h0) (fun _ _ _ _ _ => True) (fun _ U o U' => ∃ v L, o = .returned v ∧ Q_rm_bs_0 Z ak key cap K h0 n0 v U'.heap L ∧ FrameEnd U o U' L ({ frames := 1, cells := 0, slots := 0, locals := 19 } : Room).cells ({ frames := 1, cells := 0, slots := 0, locals := 19 } : Room).slots) := by
 refine MetFree.of_bodySF (plainFor_of_name own_pn0) hisR ?_
 intro p e s m args below meth c s₁ Bd hml0 hP hK
 obtain ⟨rfl, hZ, hh⟩ := hP
 have hx := Bd.exec
 have hby := Bd.bytes
 have hml : c.maxLocals = 4 := hml0
 have hown : s.vm.findClass "java/util/Arrays" = some m.cls := findClass_of_methodNamed Bd.named
 have hnm := (name_of_methodNamed Bd.named Bd.method).1
 have X0 : Stand p l e ({ frames := 1, cells := 0, slots := 0, locals := 19 } : Room) s m #[.ref ak, .int 0, .int 0, .int key] below meth c s₁ [] 0 0 := Stand.of_body Bd
 have e0 : s₁.heap = h0 := by rw [← hh, Bd.state]; rfl
 have N0 := Fr.nil n0
 obtain ⟨B0, hB0⟩ : ∃ B, B = (s₁.setTop (entryFrame m #[.ref ak, .int 0, .int 0, .int key] 4)) := ⟨_, rfl⟩
 have st0 : own_K p e below s₁ m 0 #[rv ak, iv 0, iv 0, iv key] [] B0 := fun t kk0 => hB0 ▸ castTop (own_ef7_RIII m ak (0 : Int32) (0 : Int32) key) kk0
 have hc31 := Ak.small
 have st1 : own_K p e below s₁ m 1 #[rv ak, iv 0, iv 0, iv key] [.ref ak] B0 := fun t kt => st0 t (by
  refine XS.aloadN X0.here hx rfl (hb hby d7_0) rfl rfl ?_
  exact kt)
 have ls2 := own_alen X0 hx hZ e0 Ak (g := (mkF m 1 #[rv ak, iv 0, iv 0, iv key] [.ref ak])) rfl rfl (hb hby d7_1)
 have st3 := fun t kt => st1 t (ls2 t kt)
 have st4 : own_K p e below s₁ m 4 #[rv ak, iv 0, iv 0, iv key] [.int 0, .int 0, .int (Int32.ofNat cap)] B0 := fun t kt => st3 t (by
  refine XS.iloadN X0.here hx rfl (hb hby d7_2) rfl ?_
  refine XS.iloadN X0.here hx rfl (hb hby d7_3) rfl ?_
  exact kt)
 obtain ⟨_, _, ⟨T5, L5, k5, n5⟩, -, X5, ⟨Lc5, hQ5, l5, y5, z5⟩, ls5⟩ := Jvm.LawKit.callS X0 hx (y := (⟨"java/util/Arrays", "rangeCheck", "(III)V"⟩ : MethodName)) hown (mvT hZ (own_w hw 51 rfl)) (mvT hZ (own_w hw 52 rfl)) (mvT hZ (own_w hw 49 rfl)) (mvT hZ (own_w hw 53 rfl)) (by decide) (backOf (W := 0) (rm_rc_0 l Z a0 hw [] ((Int32.ofNat cap)) h0 n0 Z0 (by
   rw [show (0 : Int32) = Int32.ofNat 0 from rfl, own_ltN hc31 (by decide)]
   omega)) hZ (own_w hw 53 rfl) (own_w hw 49 rfl) (by decide) (by decide)) (g := (mkF m 4 #[rv ak, iv 0, iv 0, iv key] [.int 0, .int 0, .int (Int32.ofNat cap)])) rfl (by rw [hml]; rfl) (argsL := [.int (Int32.ofNat cap), .int 0, .int 0]) (rest := []) (lenOf own_pd3 rfl) rfl (by show 2 * 0 + _ ≤ _; exact Nat.le_of_eq rfl) (hb hby d7_4) (fun _ _ => ⟨rfl, e0, (by decide : 0 + 0 ≤ _), (by decide : 0 + 0 ≤ _)⟩)
 dsimp only [Pt.U, Pt.locs, Pt.cells, Pt.slots] at X5 l5 y5 z5 ls5 hQ5
 subst l5 y5 z5
 obtain ⟨rfl, Nq5, eq5⟩ := hQ5
 have N5 := Fr.app N0 Nq5
 have st6 := fun t kt => st4 t (ls5 t kt)
 have st7 : own_K p e below T5 m 11 #[rv ak, iv 0, iv 0, iv key] [.int key, .int 0, .int 0, .ref ak] B0 := fun t kt => st6 t (by
  refine XS.aloadN X5.here hx rfl (hb hby d7_7) rfl rfl ?_
  refine XS.iloadN X5.here hx rfl (hb hby d7_8) rfl ?_
  refine XS.iloadN X5.here hx rfl (hb hby d7_9) rfl ?_
  refine XS.iloadN X5.here hx rfl (hb hby d7_10) rfl ?_
  exact kt)
 obtain ⟨_, _, ⟨T8, L8, k8, n8⟩, -, X8, ⟨Lc8, hQ8, l8, y8, z8⟩, ls8⟩ := Jvm.LawKit.callS X5 hx (y := (⟨"java/util/Arrays", "binarySearch0", "([IIII)I"⟩ : MethodName)) hown (mvT hZ (own_w hw 54 rfl)) (mvT hZ (own_w hw 55 rfl)) (mvT hZ (own_w hw 49 rfl)) (mvT hZ (own_w hw 56 rfl)) (by decide) (backOf (W := 0) (rm_bs0_0 l Z a0 hw [] ak key cap K h0 n0 Z0 Ak hcap hasc) hZ (own_w hw 56 rfl) (own_w hw 49 rfl) (by decide) (by decide)) (g := (mkF m 11 #[rv ak, iv 0, iv 0, iv key] [.int key, .int 0, .int 0, .ref ak])) rfl (by rw [hml]; rfl) (argsL := [.ref ak, .int 0, .int 0, .int key]) (rest := []) (lenOf own_pd4 rfl) rfl (by show 2 * 0 + _ ≤ _; exact Nat.le_of_eq rfl) (hb hby d7_11) (fun _ _ => ⟨rfl, eq5, (by decide : 0 + 0 ≤ _), (by decide : 0 + 0 ≤ _)⟩)
 dsimp only [Pt.U, Pt.locs, Pt.cells, Pt.slots] at X8 l8 y8 z8 ls8 hQ8
 subst l8 y8 z8
 obtain ⟨r8, rfl, hr8, Nq8, eq8⟩ := hQ8
 have N8 := Fr.app N5 Nq8
 have st9 := fun t kt => st7 t (ls8 t kt)
 obtain ⟨fs, hr, hrun, hended, hW, hsame⟩ := X8.leave (v := (some (.int r8))) (fun h => by rw [Bd.returns] at h; cases h)
 subst hB0
 refine ⟨_, _, st9 _ ?_, hrun, hended, _, _, rfl, ?_, ⟨_, rfl⟩, hW, hsame.mono (by decide) (by decide)⟩
 ·exact retOut X8 hx Bd.returns rfl (Or.inl ⟨rfl, Or.inl rfl, _, rfl⟩) (hb hby d7_14) hr
 ·show Q_rm_bs_0 Z ak key cap K h0 n0 _ T8.heap _
  rw [eq8]
  exact ⟨_, rfl, hr8, N8, rfl⟩
def Q_rm_bs0_1 (Z : State) (ak : Addr) (key : Int32) (cap : Nat) (K : Nat → Int32) (h0 : Heap) (n0 : Nat) (v : Option Value) (h : Heap) (L : List Loc) : Prop := ∃ r, v = some (.int r) ∧ own_Pos 1 K key r ∧ Fr n0 L ∧ h = h0
set_option maxRecDepth 65536 in
set_option maxHeartbeats 40000000 in
theorem rm_bs0_1 (l : Launch) (Z : State) (a0 : Array Value) (hw : ∀ d ∈ tables_1, d.before a0 Z = true) (ws : List Jvm.Cond) (ak : Addr) (key : Int32) (cap : Nat) (K : Nat → Int32) (h0 : Heap) (n0 : Nat) (Z0 : n0 ≤ h0.size) (Ak : own_Av Z h0 ak .int cap (fun q => .int (K q))) (hcap : 1 ≤ cap) (hasc : 1 = 2 → K 0 < K 1) :
  MetFree l (⟨"java/util/Arrays", "binarySearch0", "([IIII)I"⟩ : MethodName) (head1 (Jvm.Cond.code (⟨"java/util/Arrays", "binarySearch0", "([IIII)I"⟩ : MethodName) jdk_65_method_59_code 8 (some .int) :: ws) ({ frames := 0, cells := 0, slots := 0, locals := 0 } : Room)) (fun a U => a = #[.ref ak, .int 0, .int 1, .int key] ∧ Z.Warmed39 U.vm ∧ U.heap = h0) (fun _ _ _ _ _ => True) (fun _ U o U' => ∃ v L, o = .returned v ∧ Q_rm_bs0_1 Z ak key cap K h0 n0 v U'.heap L ∧ FrameEnd U o U' L ({ frames := 0, cells := 0, slots := 0, locals := 0 } : Room).cells ({ frames := 0, cells := 0, slots := 0, locals := 0 } : Room).slots) := by
 refine MetFree.of_bodySF (plainFor_of_name own_pn0) hisR ?_
 intro p e s m args below meth c s₁ Bd hml0 hP hK
 obtain ⟨rfl, hZ, hh⟩ := hP
 have hx := Bd.exec
 have hby := Bd.bytes
 have hml : c.maxLocals = 8 := hml0
 have hown : s.vm.findClass "java/util/Arrays" = some m.cls := findClass_of_methodNamed Bd.named
 have hnm := (name_of_methodNamed Bd.named Bd.method).1
 have X0 : Stand p l e ({ frames := 0, cells := 0, slots := 0, locals := 0 } : Room) s m #[.ref ak, .int 0, .int 1, .int key] below meth c s₁ [] 0 0 := Stand.of_body Bd
 have e0 : s₁.heap = h0 := by rw [← hh, Bd.state]; rfl
 have N0 := Fr.nil n0
 obtain ⟨B0, hB0⟩ : ∃ B, B = (s₁.setTop (entryFrame m #[.ref ak, .int 0, .int 1, .int key] 8)) := ⟨_, rfl⟩
 have st0 : own_K p e below s₁ m 0 #[rv ak, iv 0, iv 1, iv key, .unset, .unset, .unset, .unset] [] B0 := fun t kk0 => hB0 ▸ castTop (own_ef9_RIII m ak (0 : Int32) (1 : Int32) key) kk0
 have hc1 : ¬ ((0 : Int32) < (0 : Int32)) := by decide
 have st2 : own_K p e below s₁ m 27 #[rv ak, iv 0, iv 1, iv key, iv 0, iv 0, iv 0, .unset] [.int 0, .ref ak] B0 := fun t kt => st0 t (by
  refine XS.iloadN X0.here hx rfl (hb hby d9_0) rfl ?_
  refine XS.istore X0.here hx rfl (hb hby d9_1) rfl (l' := #[rv ak, iv 0, iv 1, iv key, iv 0, .unset, .unset, .unset]) rfl ?_
  refine XS.iloadN X0.here hx rfl (hb hby d9_3) rfl ?_
  refine XS.iconst X0.here hx rfl (hb hby d9_4) ?_
  refine XS.isub X0.here hx rfl (hb hby d9_5) rfl ?_
  show own_At p e below s₁ m 6 #[rv ak, iv 0, iv 1, iv key, iv 0, .unset, .unset, .unset] [(.int ((1 : Int32) - (1 : Int32)))] _
  rw [show ((1 : Int32) - (1 : Int32)) = (0 : Int32) from (by decide +kernel)]
  refine XS.istore X0.here hx rfl (hb hby d9_6) rfl (l' := #[rv ak, iv 0, iv 1, iv key, iv 0, iv 0, .unset, .unset]) rfl ?_
  refine XS.iload X0.here hx rfl (hb hby d9_8) rfl ?_
  refine XS.iload X0.here hx rfl (hb hby d9_10) rfl ?_
  refine XS.icmpNo X0.here hx rfl (hb hby d9_12) rfl (flt hc1).2.2.1 ?_
  refine XS.iload X0.here hx rfl (hb hby d9_15) rfl ?_
  refine XS.iload X0.here hx rfl (hb hby d9_17) rfl ?_
  refine XS.iadd X0.here hx rfl (hb hby d9_19) rfl ?_
  refine XS.iconst X0.here hx rfl (hb hby d9_20) ?_
  refine XS.iushr X0.here hx rfl (hb hby d9_21) rfl ?_
  show own_At p e below s₁ m 22 #[rv ak, iv 0, iv 1, iv key, iv 0, iv 0, .unset, .unset] [(.int ((((0 : Int32) + (0 : Int32)).toUInt32 >>> ((1 : Int32) &&& 31).toUInt32).toInt32))] _
  rw [show ((((0 : Int32) + (0 : Int32)).toUInt32 >>> ((1 : Int32) &&& 31).toUInt32).toInt32) = (0 : Int32) from (by decide +kernel)]
  refine XS.istore X0.here hx rfl (hb hby d9_22) rfl (l' := #[rv ak, iv 0, iv 1, iv key, iv 0, iv 0, iv 0, .unset]) rfl ?_
  refine XS.aloadN X0.here hx rfl (hb hby d9_24) rfl rfl ?_
  refine XS.iload X0.here hx rfl (hb hby d9_25) rfl ?_
  exact kt)
 have ls3 := own_iaload X0 hx hZ e0 Ak (j := (0 : Int32)) (i := 0) (by decide) (by decide) (by omega) (v := (.int (K 0))) (rfl) (g := (mkF m 27 #[rv ak, iv 0, iv 1, iv key, iv 0, iv 0, iv 0, .unset] [.int 0, .ref ak])) rfl rfl (hb hby d9_27)
 have st4 := fun t kt => st2 t (ls3 t kt)
 have st5 : own_K p e below s₁ m 33 #[rv ak, iv 0, iv 1, iv key, iv 0, iv 0, iv 0, iv (K 0)] [.int key, .int (K 0)] B0 := fun t kt => st4 t (by
  refine XS.istore X0.here hx rfl (hb hby d9_28) rfl (l' := #[rv ak, iv 0, iv 1, iv key, iv 0, iv 0, iv 0, iv (K 0)]) rfl ?_
  refine XS.iload X0.here hx rfl (hb hby d9_30) rfl ?_
  refine XS.iloadN X0.here hx rfl (hb hby d9_32) rfl ?_
  exact kt)
 by_cases p0 : (K 0) < key
 ·have hc6 : (0 : Int32) < (1 : Int32) := by decide
  have st7 : own_K p e below s₁ m 71 #[rv ak, iv 0, iv 1, iv key, iv 1, iv 0, iv 0, iv (K 0)] [(.int (-((1 : Int32) + (1 : Int32))))] B0 := fun t kt => st5 t (by
   refine XS.icmpNo X0.here hx rfl (hb hby d9_33) rfl (tlt p0).2.1 ?_
   refine XS.iload X0.here hx rfl (hb hby d9_36) rfl ?_
   refine XS.iconst X0.here hx rfl (hb hby d9_38) ?_
   refine XS.iadd X0.here hx rfl (hb hby d9_39) rfl ?_
   show own_At p e below s₁ m 40 #[rv ak, iv 0, iv 1, iv key, iv 0, iv 0, iv 0, iv (K 0)] [(.int ((0 : Int32) + (1 : Int32)))] _
   rw [show ((0 : Int32) + (1 : Int32)) = (1 : Int32) from (by decide +kernel)]
   refine XS.istore X0.here hx rfl (hb hby d9_40) rfl (l' := #[rv ak, iv 0, iv 1, iv key, iv 1, iv 0, iv 0, iv (K 0)]) rfl ?_
   refine XS.goto X0.here hx rfl (pc0 := 42) (pc' := 63) rfl (hb hby d9_42) (by decide) (by decide) ?_
   refine XS.goto X0.here hx rfl (pc0 := 63) (pc' := 8) rfl (hb hby d9_63) (by decide) (by decide) ?_
   refine XS.iload X0.here hx rfl (hb hby d9_8) rfl ?_
   refine XS.iload X0.here hx rfl (hb hby d9_10) rfl ?_
   refine XS.icmpYes X0.here hx rfl (pc0 := 12) (pc' := 66) rfl (hb hby d9_12) rfl (tlt hc6).2.2.1 (by decide) (by decide) ?_
   refine XS.iload X0.here hx rfl (hb hby d9_66) rfl ?_
   refine XS.iconst X0.here hx rfl (hb hby d9_68) ?_
   refine XS.iadd X0.here hx rfl (hb hby d9_69) rfl ?_
   refine XS.ineg X0.here hx rfl (hb hby d9_70) rfl ?_
   exact kt)
  obtain ⟨fs, hr, hrun, hended, hW, hsame⟩ := X0.leave (v := (some (.int (-((1 : Int32) + (1 : Int32)))))) (fun h => by rw [Bd.returns] at h; cases h)
  subst hB0
  refine ⟨_, _, st7 _ ?_, hrun, hended, _, _, rfl, ?_, ⟨_, rfl⟩, hW, hsame.mono (by decide) (by decide)⟩
  ·exact retOut X0 hx Bd.returns rfl (Or.inl ⟨rfl, Or.inl rfl, _, rfl⟩) (hb hby d9_71) hr
  ·show Q_rm_bs0_1 Z ak key cap K h0 n0 _ s₁.heap _
   rw [e0]
   exact ⟨_, rfl, Or.inr ⟨1, by decide, by decide, fun j hj => match j, hj with | 0, _ => p0 | _ + 1, z => absurd z (by omega), fun j h1 h2 => match j, h1, h2 with | 0, z, _ => absurd z (by decide) | _ + 1, _, z => absurd z (by omega)⟩, N0, rfl⟩
 ·have st8 : own_K p e below s₁ m 48 #[rv ak, iv 0, iv 1, iv key, iv 0, iv 0, iv 0, iv (K 0)] [.int key, .int (K 0)] B0 := fun t kt => st5 t (by
   refine XS.icmpYes X0.here hx rfl (pc0 := 33) (pc' := 45) rfl (hb hby d9_33) rfl (flt p0).2.1 (by decide) (by decide) ?_
   refine XS.iload X0.here hx rfl (hb hby d9_45) rfl ?_
   refine XS.iloadN X0.here hx rfl (hb hby d9_47) rfl ?_
   exact kt)
  by_cases s0 : key < (K 0)
  ·have hc9 : (-1 : Int32) < (0 : Int32) := by decide
   have st10 : own_K p e below s₁ m 71 #[rv ak, iv 0, iv 1, iv key, iv 0, iv (-1 : Int32), iv 0, iv (K 0)] [(.int (-((0 : Int32) + (1 : Int32))))] B0 := fun t kt => st8 t (by
    refine XS.icmpNo X0.here hx rfl (hb hby d9_48) rfl (tlt s0).2.2.2 ?_
    refine XS.iload X0.here hx rfl (hb hby d9_51) rfl ?_
    refine XS.iconst X0.here hx rfl (hb hby d9_53) ?_
    refine XS.isub X0.here hx rfl (hb hby d9_54) rfl ?_
    show own_At p e below s₁ m 55 #[rv ak, iv 0, iv 1, iv key, iv 0, iv 0, iv 0, iv (K 0)] [(.int ((0 : Int32) - (1 : Int32)))] _
    rw [show ((0 : Int32) - (1 : Int32)) = (-1 : Int32) from (by decide +kernel)]
    refine XS.istore X0.here hx rfl (hb hby d9_55) rfl (l' := #[rv ak, iv 0, iv 1, iv key, iv 0, iv (-1 : Int32), iv 0, iv (K 0)]) rfl ?_
    refine XS.goto X0.here hx rfl (pc0 := 57) (pc' := 63) rfl (hb hby d9_57) (by decide) (by decide) ?_
    refine XS.goto X0.here hx rfl (pc0 := 63) (pc' := 8) rfl (hb hby d9_63) (by decide) (by decide) ?_
    refine XS.iload X0.here hx rfl (hb hby d9_8) rfl ?_
    refine XS.iload X0.here hx rfl (hb hby d9_10) rfl ?_
    refine XS.icmpYes X0.here hx rfl (pc0 := 12) (pc' := 66) rfl (hb hby d9_12) rfl (tlt hc9).2.2.1 (by decide) (by decide) ?_
    refine XS.iload X0.here hx rfl (hb hby d9_66) rfl ?_
    refine XS.iconst X0.here hx rfl (hb hby d9_68) ?_
    refine XS.iadd X0.here hx rfl (hb hby d9_69) rfl ?_
    refine XS.ineg X0.here hx rfl (hb hby d9_70) rfl ?_
    exact kt)
   obtain ⟨fs, hr, hrun, hended, hW, hsame⟩ := X0.leave (v := (some (.int (-((0 : Int32) + (1 : Int32)))))) (fun h => by rw [Bd.returns] at h; cases h)
   subst hB0
   refine ⟨_, _, st10 _ ?_, hrun, hended, _, _, rfl, ?_, ⟨_, rfl⟩, hW, hsame.mono (by decide) (by decide)⟩
   ·exact retOut X0 hx Bd.returns rfl (Or.inl ⟨rfl, Or.inl rfl, _, rfl⟩) (hb hby d9_71) hr
   ·show Q_rm_bs0_1 Z ak key cap K h0 n0 _ s₁.heap _
    rw [e0]
    exact ⟨_, rfl, Or.inr ⟨0, by decide, by decide, fun j hj => absurd hj (Nat.not_lt_zero _), fun j h1 h2 => match j, h1, h2 with | 0, _, _ => s0 | _ + 1, _, z => absurd z (by omega)⟩, N0, rfl⟩
  ·have st11 : own_K p e below s₁ m 62 #[rv ak, iv 0, iv 1, iv key, iv 0, iv 0, iv 0, iv (K 0)] [.int 0] B0 := fun t kt => st8 t (by
    refine XS.icmpYes X0.here hx rfl (pc0 := 48) (pc' := 60) rfl (hb hby d9_48) rfl (flt s0).2.2.2 (by decide) (by decide) ?_
    refine XS.iload X0.here hx rfl (hb hby d9_60) rfl ?_
    exact kt)
   obtain ⟨fs, hr, hrun, hended, hW, hsame⟩ := X0.leave (v := (some (.int 0))) (fun h => by rw [Bd.returns] at h; cases h)
   subst hB0
   refine ⟨_, _, st11 _ ?_, hrun, hended, _, _, rfl, ?_, ⟨_, rfl⟩, hW, hsame.mono (by decide) (by decide)⟩
   ·exact retOut X0 hx Bd.returns rfl (Or.inl ⟨rfl, Or.inl rfl, _, rfl⟩) (hb hby d9_62) hr
   ·show Q_rm_bs0_1 Z ak key cap K h0 n0 _ s₁.heap _
    rw [e0]
    exact ⟨_, rfl, Or.inl ⟨0, by decide, by decide, own_le2 p0 s0⟩, N0, rfl⟩
def Q_rm_rc_1 (Z : State) (ul : Int32) (h0 : Heap) (n0 : Nat) (v : Option Value) (h : Heap) (L : List Loc) : Prop := v = none ∧ Fr n0 L ∧ h = h0
set_option maxRecDepth 65536 in
set_option maxHeartbeats 40000000 in
theorem rm_rc_1 (l : Launch) (Z : State) (a0 : Array Value) (hw : ∀ d ∈ tables_1, d.before a0 Z = true) (ws : List Jvm.Cond) (ul : Int32) (h0 : Heap) (n0 : Nat) (Z0 : n0 ≤ h0.size) (hul : ¬ ul < 1) :
  MetFree l (⟨"java/util/Arrays", "rangeCheck", "(III)V"⟩ : MethodName) (head1 (Jvm.Cond.code (⟨"java/util/Arrays", "rangeCheck", "(III)V"⟩ : MethodName) jdk_65_method_30_code 3 none :: ws) ({ frames := 0, cells := 0, slots := 0, locals := 0 } : Room)) (fun a U => a = #[.int ul, .int 0, .int 1] ∧ Z.Warmed39 U.vm ∧ U.heap = h0) (fun _ _ _ _ _ => True) (fun _ U o U' => ∃ v L, o = .returned v ∧ Q_rm_rc_1 Z ul h0 n0 v U'.heap L ∧ FrameEnd U o U' L ({ frames := 0, cells := 0, slots := 0, locals := 0 } : Room).cells ({ frames := 0, cells := 0, slots := 0, locals := 0 } : Room).slots) := by
 refine MetFree.of_bodySF (plainFor_of_name own_pn0) hisR ?_
 intro p e s m args below meth c s₁ Bd hml0 hP hK
 obtain ⟨rfl, hZ, hh⟩ := hP
 have hx := Bd.exec
 have hby := Bd.bytes
 have hml : c.maxLocals = 3 := hml0
 have hown : s.vm.findClass "java/util/Arrays" = some m.cls := findClass_of_methodNamed Bd.named
 have hnm := (name_of_methodNamed Bd.named Bd.method).1
 have X0 : Stand p l e ({ frames := 0, cells := 0, slots := 0, locals := 0 } : Room) s m #[.int ul, .int 0, .int 1] below meth c s₁ [] 0 0 := Stand.of_body Bd
 have e0 : s₁.heap = h0 := by rw [← hh, Bd.state]; rfl
 have N0 := Fr.nil n0
 obtain ⟨B0, hB0⟩ : ∃ B, B = (s₁.setTop (entryFrame m #[.int ul, .int 0, .int 1] 3)) := ⟨_, rfl⟩
 have st0 : own_K p e below s₁ m 0 #[iv ul, iv 0, iv 1] [] B0 := fun t kk0 => hB0 ▸ castTop (own_ef8_III m ul (0 : Int32) (1 : Int32)) kk0
 have hc1 : ¬ ((1 : Int32) < (0 : Int32)) := by decide
 have hc2 : ¬ ((0 : Int32) < (0 : Int32)) := by decide
 have hc3 : ¬ (ul < (1 : Int32)) := hul
 have st4 : own_K p e below s₁ m 73 #[iv ul, iv 0, iv 1] [] B0 := fun t kt => st0 t (by
  refine XS.iloadN X0.here hx rfl (hb hby d8_0) rfl ?_
  refine XS.iloadN X0.here hx rfl (hb hby d8_1) rfl ?_
  refine XS.icmpYes X0.here hx rfl (pc0 := 2) (pc' := 46) rfl (hb hby d8_2) rfl (flt hc1).2.2.2 (by decide) (by decide) ?_
  refine XS.iloadN X0.here hx rfl (hb hby d8_46) rfl ?_
  refine XS.ifYes X0.here hx rfl (pc0 := 47) (pc' := 59) rfl (hb hby d8_47) rfl ((if0 _ _).trans (flt hc2).2.1) (by decide) (by decide) ?_
  refine XS.iloadN X0.here hx rfl (hb hby d8_59) rfl ?_
  refine XS.iloadN X0.here hx rfl (hb hby d8_60) rfl ?_
  refine XS.icmpYes X0.here hx rfl (pc0 := 61) (pc' := 73) rfl (hb hby d8_61) rfl (flt hc3).2.2.2 (by decide) (by decide) ?_
  exact kt)
 obtain ⟨fs, hr, hrun, hended, hW, hsame⟩ := X0.leave (v := none) (fun _ => rfl)
 subst hB0
 refine ⟨_, _, st4 _ ?_, hrun, hended, _, _, rfl, ?_, ⟨_, rfl⟩, hW, hsame.mono (by decide) (by decide)⟩
 ·exact X0.returnOut hx Bd.returns (hb hby d8_73) hr
 ·show Q_rm_rc_1 Z ul h0 n0 _ s₁.heap _
  rw [e0]
  exact ⟨rfl, N0, rfl⟩
def Q_rm_bs_1 (Z : State) (ak : Addr) (key : Int32) (cap : Nat) (K : Nat → Int32) (h0 : Heap) (n0 : Nat) (v : Option Value) (h : Heap) (L : List Loc) : Prop := ∃ r, v = some (.int r) ∧ own_Pos 1 K key r ∧ Fr n0 L ∧ h = h0
set_option maxRecDepth 65536 in
set_option maxHeartbeats 40000000 in
theorem rm_bs_1 (l : Launch) (Z : State) (a0 : Array Value) (hw : ∀ d ∈ tables_1, d.before a0 Z = true) (ws : List Jvm.Cond) (ak : Addr) (key : Int32) (cap : Nat) (K : Nat → Int32) (h0 : Heap) (n0 : Nat) (Z0 : n0 ≤ h0.size) (Ak : own_Av Z h0 ak .int cap (fun q => .int (K q))) (hcap : 1 ≤ cap) (hasc : 1 = 2 → K 0 < K 1) :
  MetFree l (⟨"java/util/Arrays", "binarySearch", "([IIII)I"⟩ : MethodName) (head1 (Jvm.Cond.code (⟨"java/util/Arrays", "binarySearch", "([IIII)I"⟩ : MethodName) jdk_65_method_58_code 4 (some .int) :: ws) ({ frames := 1, cells := 0, slots := 0, locals := 19 } : Room)) (fun a U => a = #[.ref ak, .int 0, .int 1, .int key] ∧ Z.Warmed39 U.vm ∧ U.heap = h0) (fun _ _ _ _ _ => True) (fun _ U o U' => ∃ v L, o = .returned v ∧ Q_rm_bs_1 Z ak key cap K h0 n0 v U'.heap L ∧ FrameEnd U o U' L ({ frames := 1, cells := 0, slots := 0, locals := 19 } : Room).cells ({ frames := 1, cells := 0, slots := 0, locals := 19 } : Room).slots) := by
 refine MetFree.of_bodySF (plainFor_of_name own_pn0) hisR ?_
 intro p e s m args below meth c s₁ Bd hml0 hP hK
 obtain ⟨rfl, hZ, hh⟩ := hP
 have hx := Bd.exec
 have hby := Bd.bytes
 have hml : c.maxLocals = 4 := hml0
 have hown : s.vm.findClass "java/util/Arrays" = some m.cls := findClass_of_methodNamed Bd.named
 have hnm := (name_of_methodNamed Bd.named Bd.method).1
 have X0 : Stand p l e ({ frames := 1, cells := 0, slots := 0, locals := 19 } : Room) s m #[.ref ak, .int 0, .int 1, .int key] below meth c s₁ [] 0 0 := Stand.of_body Bd
 have e0 : s₁.heap = h0 := by rw [← hh, Bd.state]; rfl
 have N0 := Fr.nil n0
 obtain ⟨B0, hB0⟩ : ∃ B, B = (s₁.setTop (entryFrame m #[.ref ak, .int 0, .int 1, .int key] 4)) := ⟨_, rfl⟩
 have st0 : own_K p e below s₁ m 0 #[rv ak, iv 0, iv 1, iv key] [] B0 := fun t kk0 => hB0 ▸ castTop (own_ef7_RIII m ak (0 : Int32) (1 : Int32) key) kk0
 have hc31 := Ak.small
 have st1 : own_K p e below s₁ m 1 #[rv ak, iv 0, iv 1, iv key] [.ref ak] B0 := fun t kt => st0 t (by
  refine XS.aloadN X0.here hx rfl (hb hby d7_0) rfl rfl ?_
  exact kt)
 have ls2 := own_alen X0 hx hZ e0 Ak (g := (mkF m 1 #[rv ak, iv 0, iv 1, iv key] [.ref ak])) rfl rfl (hb hby d7_1)
 have st3 := fun t kt => st1 t (ls2 t kt)
 have st4 : own_K p e below s₁ m 4 #[rv ak, iv 0, iv 1, iv key] [.int 1, .int 0, .int (Int32.ofNat cap)] B0 := fun t kt => st3 t (by
  refine XS.iloadN X0.here hx rfl (hb hby d7_2) rfl ?_
  refine XS.iloadN X0.here hx rfl (hb hby d7_3) rfl ?_
  exact kt)
 obtain ⟨_, _, ⟨T5, L5, k5, n5⟩, -, X5, ⟨Lc5, hQ5, l5, y5, z5⟩, ls5⟩ := Jvm.LawKit.callS X0 hx (y := (⟨"java/util/Arrays", "rangeCheck", "(III)V"⟩ : MethodName)) hown (mvT hZ (own_w hw 51 rfl)) (mvT hZ (own_w hw 52 rfl)) (mvT hZ (own_w hw 49 rfl)) (mvT hZ (own_w hw 53 rfl)) (by decide) (backOf (W := 0) (rm_rc_1 l Z a0 hw [] ((Int32.ofNat cap)) h0 n0 Z0 (by
   rw [show (1 : Int32) = Int32.ofNat 1 from rfl, own_ltN hc31 (by decide)]
   omega)) hZ (own_w hw 53 rfl) (own_w hw 49 rfl) (by decide) (by decide)) (g := (mkF m 4 #[rv ak, iv 0, iv 1, iv key] [.int 1, .int 0, .int (Int32.ofNat cap)])) rfl (by rw [hml]; rfl) (argsL := [.int (Int32.ofNat cap), .int 0, .int 1]) (rest := []) (lenOf own_pd3 rfl) rfl (by show 2 * 0 + _ ≤ _; exact Nat.le_of_eq rfl) (hb hby d7_4) (fun _ _ => ⟨rfl, e0, (by decide : 0 + 0 ≤ _), (by decide : 0 + 0 ≤ _)⟩)
 dsimp only [Pt.U, Pt.locs, Pt.cells, Pt.slots] at X5 l5 y5 z5 ls5 hQ5
 subst l5 y5 z5
 obtain ⟨rfl, Nq5, eq5⟩ := hQ5
 have N5 := Fr.app N0 Nq5
 have st6 := fun t kt => st4 t (ls5 t kt)
 have st7 : own_K p e below T5 m 11 #[rv ak, iv 0, iv 1, iv key] [.int key, .int 1, .int 0, .ref ak] B0 := fun t kt => st6 t (by
  refine XS.aloadN X5.here hx rfl (hb hby d7_7) rfl rfl ?_
  refine XS.iloadN X5.here hx rfl (hb hby d7_8) rfl ?_
  refine XS.iloadN X5.here hx rfl (hb hby d7_9) rfl ?_
  refine XS.iloadN X5.here hx rfl (hb hby d7_10) rfl ?_
  exact kt)
 obtain ⟨_, _, ⟨T8, L8, k8, n8⟩, -, X8, ⟨Lc8, hQ8, l8, y8, z8⟩, ls8⟩ := Jvm.LawKit.callS X5 hx (y := (⟨"java/util/Arrays", "binarySearch0", "([IIII)I"⟩ : MethodName)) hown (mvT hZ (own_w hw 54 rfl)) (mvT hZ (own_w hw 55 rfl)) (mvT hZ (own_w hw 49 rfl)) (mvT hZ (own_w hw 56 rfl)) (by decide) (backOf (W := 0) (rm_bs0_1 l Z a0 hw [] ak key cap K h0 n0 Z0 Ak hcap hasc) hZ (own_w hw 56 rfl) (own_w hw 49 rfl) (by decide) (by decide)) (g := (mkF m 11 #[rv ak, iv 0, iv 1, iv key] [.int key, .int 1, .int 0, .ref ak])) rfl (by rw [hml]; rfl) (argsL := [.ref ak, .int 0, .int 1, .int key]) (rest := []) (lenOf own_pd4 rfl) rfl (by show 2 * 0 + _ ≤ _; exact Nat.le_of_eq rfl) (hb hby d7_11) (fun _ _ => ⟨rfl, eq5, (by decide : 0 + 0 ≤ _), (by decide : 0 + 0 ≤ _)⟩)
 dsimp only [Pt.U, Pt.locs, Pt.cells, Pt.slots] at X8 l8 y8 z8 ls8 hQ8
 subst l8 y8 z8
 obtain ⟨r8, rfl, hr8, Nq8, eq8⟩ := hQ8
 have N8 := Fr.app N5 Nq8
 have st9 := fun t kt => st7 t (ls8 t kt)
 obtain ⟨fs, hr, hrun, hended, hW, hsame⟩ := X8.leave (v := (some (.int r8))) (fun h => by rw [Bd.returns] at h; cases h)
 subst hB0
 refine ⟨_, _, st9 _ ?_, hrun, hended, _, _, rfl, ?_, ⟨_, rfl⟩, hW, hsame.mono (by decide) (by decide)⟩
 ·exact retOut X8 hx Bd.returns rfl (Or.inl ⟨rfl, Or.inl rfl, _, rfl⟩) (hb hby d7_14) hr
 ·show Q_rm_bs_1 Z ak key cap K h0 n0 _ T8.heap _
  rw [eq8]
  exact ⟨_, rfl, hr8, N8, rfl⟩
def Q_rm_bs0_2 (Z : State) (ak : Addr) (key : Int32) (cap : Nat) (K : Nat → Int32) (h0 : Heap) (n0 : Nat) (v : Option Value) (h : Heap) (L : List Loc) : Prop := ∃ r, v = some (.int r) ∧ own_Pos 2 K key r ∧ Fr n0 L ∧ h = h0
set_option maxRecDepth 65536 in
set_option maxHeartbeats 40000000 in
theorem rm_bs0_2 (l : Launch) (Z : State) (a0 : Array Value) (hw : ∀ d ∈ tables_1, d.before a0 Z = true) (ws : List Jvm.Cond) (ak : Addr) (key : Int32) (cap : Nat) (K : Nat → Int32) (h0 : Heap) (n0 : Nat) (Z0 : n0 ≤ h0.size) (Ak : own_Av Z h0 ak .int cap (fun q => .int (K q))) (hcap : 2 ≤ cap) (hasc : 2 = 2 → K 0 < K 1) :
  MetFree l (⟨"java/util/Arrays", "binarySearch0", "([IIII)I"⟩ : MethodName) (head1 (Jvm.Cond.code (⟨"java/util/Arrays", "binarySearch0", "([IIII)I"⟩ : MethodName) jdk_65_method_59_code 8 (some .int) :: ws) ({ frames := 0, cells := 0, slots := 0, locals := 0 } : Room)) (fun a U => a = #[.ref ak, .int 0, .int 2, .int key] ∧ Z.Warmed39 U.vm ∧ U.heap = h0) (fun _ _ _ _ _ => True) (fun _ U o U' => ∃ v L, o = .returned v ∧ Q_rm_bs0_2 Z ak key cap K h0 n0 v U'.heap L ∧ FrameEnd U o U' L ({ frames := 0, cells := 0, slots := 0, locals := 0 } : Room).cells ({ frames := 0, cells := 0, slots := 0, locals := 0 } : Room).slots) := by
 refine MetFree.of_bodySF (plainFor_of_name own_pn0) hisR ?_
 intro p e s m args below meth c s₁ Bd hml0 hP hK
 obtain ⟨rfl, hZ, hh⟩ := hP
 have hx := Bd.exec
 have hby := Bd.bytes
 have hml : c.maxLocals = 8 := hml0
 have hown : s.vm.findClass "java/util/Arrays" = some m.cls := findClass_of_methodNamed Bd.named
 have hnm := (name_of_methodNamed Bd.named Bd.method).1
 have X0 : Stand p l e ({ frames := 0, cells := 0, slots := 0, locals := 0 } : Room) s m #[.ref ak, .int 0, .int 2, .int key] below meth c s₁ [] 0 0 := Stand.of_body Bd
 have e0 : s₁.heap = h0 := by rw [← hh, Bd.state]; rfl
 have N0 := Fr.nil n0
 obtain ⟨B0, hB0⟩ : ∃ B, B = (s₁.setTop (entryFrame m #[.ref ak, .int 0, .int 2, .int key] 8)) := ⟨_, rfl⟩
 have st0 : own_K p e below s₁ m 0 #[rv ak, iv 0, iv 2, iv key, .unset, .unset, .unset, .unset] [] B0 := fun t kk0 => hB0 ▸ castTop (own_ef9_RIII m ak (0 : Int32) (2 : Int32) key) kk0
 have hc1 : ¬ ((1 : Int32) < (0 : Int32)) := by decide
 have st2 : own_K p e below s₁ m 27 #[rv ak, iv 0, iv 2, iv key, iv 0, iv 1, iv 0, .unset] [.int 0, .ref ak] B0 := fun t kt => st0 t (by
  refine XS.iloadN X0.here hx rfl (hb hby d9_0) rfl ?_
  refine XS.istore X0.here hx rfl (hb hby d9_1) rfl (l' := #[rv ak, iv 0, iv 2, iv key, iv 0, .unset, .unset, .unset]) rfl ?_
  refine XS.iloadN X0.here hx rfl (hb hby d9_3) rfl ?_
  refine XS.iconst X0.here hx rfl (hb hby d9_4) ?_
  refine XS.isub X0.here hx rfl (hb hby d9_5) rfl ?_
  show own_At p e below s₁ m 6 #[rv ak, iv 0, iv 2, iv key, iv 0, .unset, .unset, .unset] [(.int ((2 : Int32) - (1 : Int32)))] _
  rw [show ((2 : Int32) - (1 : Int32)) = (1 : Int32) from (by decide +kernel)]
  refine XS.istore X0.here hx rfl (hb hby d9_6) rfl (l' := #[rv ak, iv 0, iv 2, iv key, iv 0, iv 1, .unset, .unset]) rfl ?_
  refine XS.iload X0.here hx rfl (hb hby d9_8) rfl ?_
  refine XS.iload X0.here hx rfl (hb hby d9_10) rfl ?_
  refine XS.icmpNo X0.here hx rfl (hb hby d9_12) rfl (flt hc1).2.2.1 ?_
  refine XS.iload X0.here hx rfl (hb hby d9_15) rfl ?_
  refine XS.iload X0.here hx rfl (hb hby d9_17) rfl ?_
  refine XS.iadd X0.here hx rfl (hb hby d9_19) rfl ?_
  refine XS.iconst X0.here hx rfl (hb hby d9_20) ?_
  refine XS.iushr X0.here hx rfl (hb hby d9_21) rfl ?_
  show own_At p e below s₁ m 22 #[rv ak, iv 0, iv 2, iv key, iv 0, iv 1, .unset, .unset] [(.int ((((0 : Int32) + (1 : Int32)).toUInt32 >>> ((1 : Int32) &&& 31).toUInt32).toInt32))] _
  rw [show ((((0 : Int32) + (1 : Int32)).toUInt32 >>> ((1 : Int32) &&& 31).toUInt32).toInt32) = (0 : Int32) from (by decide +kernel)]
  refine XS.istore X0.here hx rfl (hb hby d9_22) rfl (l' := #[rv ak, iv 0, iv 2, iv key, iv 0, iv 1, iv 0, .unset]) rfl ?_
  refine XS.aloadN X0.here hx rfl (hb hby d9_24) rfl rfl ?_
  refine XS.iload X0.here hx rfl (hb hby d9_25) rfl ?_
  exact kt)
 have ls3 := own_iaload X0 hx hZ e0 Ak (j := (0 : Int32)) (i := 0) (by decide) (by decide) (by omega) (v := (.int (K 0))) (rfl) (g := (mkF m 27 #[rv ak, iv 0, iv 2, iv key, iv 0, iv 1, iv 0, .unset] [.int 0, .ref ak])) rfl rfl (hb hby d9_27)
 have st4 := fun t kt => st2 t (ls3 t kt)
 have st5 : own_K p e below s₁ m 33 #[rv ak, iv 0, iv 2, iv key, iv 0, iv 1, iv 0, iv (K 0)] [.int key, .int (K 0)] B0 := fun t kt => st4 t (by
  refine XS.istore X0.here hx rfl (hb hby d9_28) rfl (l' := #[rv ak, iv 0, iv 2, iv key, iv 0, iv 1, iv 0, iv (K 0)]) rfl ?_
  refine XS.iload X0.here hx rfl (hb hby d9_30) rfl ?_
  refine XS.iloadN X0.here hx rfl (hb hby d9_32) rfl ?_
  exact kt)
 by_cases p0 : (K 0) < key
 ·have hc6 : ¬ ((1 : Int32) < (1 : Int32)) := by decide
  have st7 : own_K p e below s₁ m 27 #[rv ak, iv 0, iv 2, iv key, iv 1, iv 1, iv 1, iv (K 0)] [.int 1, .ref ak] B0 := fun t kt => st5 t (by
   refine XS.icmpNo X0.here hx rfl (hb hby d9_33) rfl (tlt p0).2.1 ?_
   refine XS.iload X0.here hx rfl (hb hby d9_36) rfl ?_
   refine XS.iconst X0.here hx rfl (hb hby d9_38) ?_
   refine XS.iadd X0.here hx rfl (hb hby d9_39) rfl ?_
   show own_At p e below s₁ m 40 #[rv ak, iv 0, iv 2, iv key, iv 0, iv 1, iv 0, iv (K 0)] [(.int ((0 : Int32) + (1 : Int32)))] _
   rw [show ((0 : Int32) + (1 : Int32)) = (1 : Int32) from (by decide +kernel)]
   refine XS.istore X0.here hx rfl (hb hby d9_40) rfl (l' := #[rv ak, iv 0, iv 2, iv key, iv 1, iv 1, iv 0, iv (K 0)]) rfl ?_
   refine XS.goto X0.here hx rfl (pc0 := 42) (pc' := 63) rfl (hb hby d9_42) (by decide) (by decide) ?_
   refine XS.goto X0.here hx rfl (pc0 := 63) (pc' := 8) rfl (hb hby d9_63) (by decide) (by decide) ?_
   refine XS.iload X0.here hx rfl (hb hby d9_8) rfl ?_
   refine XS.iload X0.here hx rfl (hb hby d9_10) rfl ?_
   refine XS.icmpNo X0.here hx rfl (hb hby d9_12) rfl (flt hc6).2.2.1 ?_
   refine XS.iload X0.here hx rfl (hb hby d9_15) rfl ?_
   refine XS.iload X0.here hx rfl (hb hby d9_17) rfl ?_
   refine XS.iadd X0.here hx rfl (hb hby d9_19) rfl ?_
   refine XS.iconst X0.here hx rfl (hb hby d9_20) ?_
   refine XS.iushr X0.here hx rfl (hb hby d9_21) rfl ?_
   show own_At p e below s₁ m 22 #[rv ak, iv 0, iv 2, iv key, iv 1, iv 1, iv 0, iv (K 0)] [(.int ((((1 : Int32) + (1 : Int32)).toUInt32 >>> ((1 : Int32) &&& 31).toUInt32).toInt32))] _
   rw [show ((((1 : Int32) + (1 : Int32)).toUInt32 >>> ((1 : Int32) &&& 31).toUInt32).toInt32) = (1 : Int32) from (by decide +kernel)]
   refine XS.istore X0.here hx rfl (hb hby d9_22) rfl (l' := #[rv ak, iv 0, iv 2, iv key, iv 1, iv 1, iv 1, iv (K 0)]) rfl ?_
   refine XS.aloadN X0.here hx rfl (hb hby d9_24) rfl rfl ?_
   refine XS.iload X0.here hx rfl (hb hby d9_25) rfl ?_
   exact kt)
  have ls8 := own_iaload X0 hx hZ e0 Ak (j := (1 : Int32)) (i := 1) (by decide) (by decide) (by omega) (v := (.int (K 1))) (rfl) (g := (mkF m 27 #[rv ak, iv 0, iv 2, iv key, iv 1, iv 1, iv 1, iv (K 0)] [.int 1, .ref ak])) rfl rfl (hb hby d9_27)
  have st9 := fun t kt => st7 t (ls8 t kt)
  have st10 : own_K p e below s₁ m 33 #[rv ak, iv 0, iv 2, iv key, iv 1, iv 1, iv 1, iv (K 1)] [.int key, .int (K 1)] B0 := fun t kt => st9 t (by
   refine XS.istore X0.here hx rfl (hb hby d9_28) rfl (l' := #[rv ak, iv 0, iv 2, iv key, iv 1, iv 1, iv 1, iv (K 1)]) rfl ?_
   refine XS.iload X0.here hx rfl (hb hby d9_30) rfl ?_
   refine XS.iloadN X0.here hx rfl (hb hby d9_32) rfl ?_
   exact kt)
  by_cases p1 : (K 1) < key
  ·have hc11 : (1 : Int32) < (2 : Int32) := by decide
   have st12 : own_K p e below s₁ m 71 #[rv ak, iv 0, iv 2, iv key, iv 2, iv 1, iv 1, iv (K 1)] [(.int (-((2 : Int32) + (1 : Int32))))] B0 := fun t kt => st10 t (by
    refine XS.icmpNo X0.here hx rfl (hb hby d9_33) rfl (tlt p1).2.1 ?_
    refine XS.iload X0.here hx rfl (hb hby d9_36) rfl ?_
    refine XS.iconst X0.here hx rfl (hb hby d9_38) ?_
    refine XS.iadd X0.here hx rfl (hb hby d9_39) rfl ?_
    show own_At p e below s₁ m 40 #[rv ak, iv 0, iv 2, iv key, iv 1, iv 1, iv 1, iv (K 1)] [(.int ((1 : Int32) + (1 : Int32)))] _
    rw [show ((1 : Int32) + (1 : Int32)) = (2 : Int32) from (by decide +kernel)]
    refine XS.istore X0.here hx rfl (hb hby d9_40) rfl (l' := #[rv ak, iv 0, iv 2, iv key, iv 2, iv 1, iv 1, iv (K 1)]) rfl ?_
    refine XS.goto X0.here hx rfl (pc0 := 42) (pc' := 63) rfl (hb hby d9_42) (by decide) (by decide) ?_
    refine XS.goto X0.here hx rfl (pc0 := 63) (pc' := 8) rfl (hb hby d9_63) (by decide) (by decide) ?_
    refine XS.iload X0.here hx rfl (hb hby d9_8) rfl ?_
    refine XS.iload X0.here hx rfl (hb hby d9_10) rfl ?_
    refine XS.icmpYes X0.here hx rfl (pc0 := 12) (pc' := 66) rfl (hb hby d9_12) rfl (tlt hc11).2.2.1 (by decide) (by decide) ?_
    refine XS.iload X0.here hx rfl (hb hby d9_66) rfl ?_
    refine XS.iconst X0.here hx rfl (hb hby d9_68) ?_
    refine XS.iadd X0.here hx rfl (hb hby d9_69) rfl ?_
    refine XS.ineg X0.here hx rfl (hb hby d9_70) rfl ?_
    exact kt)
   obtain ⟨fs, hr, hrun, hended, hW, hsame⟩ := X0.leave (v := (some (.int (-((2 : Int32) + (1 : Int32)))))) (fun h => by rw [Bd.returns] at h; cases h)
   subst hB0
   refine ⟨_, _, st12 _ ?_, hrun, hended, _, _, rfl, ?_, ⟨_, rfl⟩, hW, hsame.mono (by decide) (by decide)⟩
   ·exact retOut X0 hx Bd.returns rfl (Or.inl ⟨rfl, Or.inl rfl, _, rfl⟩) (hb hby d9_71) hr
   ·show Q_rm_bs0_2 Z ak key cap K h0 n0 _ s₁.heap _
    rw [e0]
    exact ⟨_, rfl, Or.inr ⟨2, by decide, by decide, fun j hj => match j, hj with | 0, _ => p0 | 1, _ => p1 | _ + 2, z => absurd z (by omega), fun j h1 h2 => match j, h1, h2 with | 0, z, _ => absurd z (by decide) | 1, z, _ => absurd z (by decide) | _ + 2, _, z => absurd z (by omega)⟩, N0, rfl⟩
  ·have st13 : own_K p e below s₁ m 48 #[rv ak, iv 0, iv 2, iv key, iv 1, iv 1, iv 1, iv (K 1)] [.int key, .int (K 1)] B0 := fun t kt => st10 t (by
    refine XS.icmpYes X0.here hx rfl (pc0 := 33) (pc' := 45) rfl (hb hby d9_33) rfl (flt p1).2.1 (by decide) (by decide) ?_
    refine XS.iload X0.here hx rfl (hb hby d9_45) rfl ?_
    refine XS.iloadN X0.here hx rfl (hb hby d9_47) rfl ?_
    exact kt)
   by_cases s1 : key < (K 1)
   ·have hc14 : (0 : Int32) < (1 : Int32) := by decide
    have st15 : own_K p e below s₁ m 71 #[rv ak, iv 0, iv 2, iv key, iv 1, iv 0, iv 1, iv (K 1)] [(.int (-((1 : Int32) + (1 : Int32))))] B0 := fun t kt => st13 t (by
     refine XS.icmpNo X0.here hx rfl (hb hby d9_48) rfl (tlt s1).2.2.2 ?_
     refine XS.iload X0.here hx rfl (hb hby d9_51) rfl ?_
     refine XS.iconst X0.here hx rfl (hb hby d9_53) ?_
     refine XS.isub X0.here hx rfl (hb hby d9_54) rfl ?_
     show own_At p e below s₁ m 55 #[rv ak, iv 0, iv 2, iv key, iv 1, iv 1, iv 1, iv (K 1)] [(.int ((1 : Int32) - (1 : Int32)))] _
     rw [show ((1 : Int32) - (1 : Int32)) = (0 : Int32) from (by decide +kernel)]
     refine XS.istore X0.here hx rfl (hb hby d9_55) rfl (l' := #[rv ak, iv 0, iv 2, iv key, iv 1, iv 0, iv 1, iv (K 1)]) rfl ?_
     refine XS.goto X0.here hx rfl (pc0 := 57) (pc' := 63) rfl (hb hby d9_57) (by decide) (by decide) ?_
     refine XS.goto X0.here hx rfl (pc0 := 63) (pc' := 8) rfl (hb hby d9_63) (by decide) (by decide) ?_
     refine XS.iload X0.here hx rfl (hb hby d9_8) rfl ?_
     refine XS.iload X0.here hx rfl (hb hby d9_10) rfl ?_
     refine XS.icmpYes X0.here hx rfl (pc0 := 12) (pc' := 66) rfl (hb hby d9_12) rfl (tlt hc14).2.2.1 (by decide) (by decide) ?_
     refine XS.iload X0.here hx rfl (hb hby d9_66) rfl ?_
     refine XS.iconst X0.here hx rfl (hb hby d9_68) ?_
     refine XS.iadd X0.here hx rfl (hb hby d9_69) rfl ?_
     refine XS.ineg X0.here hx rfl (hb hby d9_70) rfl ?_
     exact kt)
    obtain ⟨fs, hr, hrun, hended, hW, hsame⟩ := X0.leave (v := (some (.int (-((1 : Int32) + (1 : Int32)))))) (fun h => by rw [Bd.returns] at h; cases h)
    subst hB0
    refine ⟨_, _, st15 _ ?_, hrun, hended, _, _, rfl, ?_, ⟨_, rfl⟩, hW, hsame.mono (by decide) (by decide)⟩
    ·exact retOut X0 hx Bd.returns rfl (Or.inl ⟨rfl, Or.inl rfl, _, rfl⟩) (hb hby d9_71) hr
    ·show Q_rm_bs0_2 Z ak key cap K h0 n0 _ s₁.heap _
     rw [e0]
     exact ⟨_, rfl, Or.inr ⟨1, by decide, by decide, fun j hj => match j, hj with | 0, _ => p0 | _ + 1, z => absurd z (by omega), fun j h1 h2 => match j, h1, h2 with | 0, z, _ => absurd z (by decide) | 1, _, _ => s1 | _ + 2, _, z => absurd z (by omega)⟩, N0, rfl⟩
   ·have st16 : own_K p e below s₁ m 62 #[rv ak, iv 0, iv 2, iv key, iv 1, iv 1, iv 1, iv (K 1)] [.int 1] B0 := fun t kt => st13 t (by
     refine XS.icmpYes X0.here hx rfl (pc0 := 48) (pc' := 60) rfl (hb hby d9_48) rfl (flt s1).2.2.2 (by decide) (by decide) ?_
     refine XS.iload X0.here hx rfl (hb hby d9_60) rfl ?_
     exact kt)
    obtain ⟨fs, hr, hrun, hended, hW, hsame⟩ := X0.leave (v := (some (.int 1))) (fun h => by rw [Bd.returns] at h; cases h)
    subst hB0
    refine ⟨_, _, st16 _ ?_, hrun, hended, _, _, rfl, ?_, ⟨_, rfl⟩, hW, hsame.mono (by decide) (by decide)⟩
    ·exact retOut X0 hx Bd.returns rfl (Or.inl ⟨rfl, Or.inl rfl, _, rfl⟩) (hb hby d9_62) hr
    ·show Q_rm_bs0_2 Z ak key cap K h0 n0 _ s₁.heap _
     rw [e0]
     exact ⟨_, rfl, Or.inl ⟨1, by decide, by decide, own_le2 p1 s1⟩, N0, rfl⟩
 ·have st17 : own_K p e below s₁ m 48 #[rv ak, iv 0, iv 2, iv key, iv 0, iv 1, iv 0, iv (K 0)] [.int key, .int (K 0)] B0 := fun t kt => st5 t (by
   refine XS.icmpYes X0.here hx rfl (pc0 := 33) (pc' := 45) rfl (hb hby d9_33) rfl (flt p0).2.1 (by decide) (by decide) ?_
   refine XS.iload X0.here hx rfl (hb hby d9_45) rfl ?_
   refine XS.iloadN X0.here hx rfl (hb hby d9_47) rfl ?_
   exact kt)
  by_cases s0 : key < (K 0)
  ·have hc18 : (-1 : Int32) < (0 : Int32) := by decide
   have st19 : own_K p e below s₁ m 71 #[rv ak, iv 0, iv 2, iv key, iv 0, iv (-1 : Int32), iv 0, iv (K 0)] [(.int (-((0 : Int32) + (1 : Int32))))] B0 := fun t kt => st17 t (by
    refine XS.icmpNo X0.here hx rfl (hb hby d9_48) rfl (tlt s0).2.2.2 ?_
    refine XS.iload X0.here hx rfl (hb hby d9_51) rfl ?_
    refine XS.iconst X0.here hx rfl (hb hby d9_53) ?_
    refine XS.isub X0.here hx rfl (hb hby d9_54) rfl ?_
    show own_At p e below s₁ m 55 #[rv ak, iv 0, iv 2, iv key, iv 0, iv 1, iv 0, iv (K 0)] [(.int ((0 : Int32) - (1 : Int32)))] _
    rw [show ((0 : Int32) - (1 : Int32)) = (-1 : Int32) from (by decide +kernel)]
    refine XS.istore X0.here hx rfl (hb hby d9_55) rfl (l' := #[rv ak, iv 0, iv 2, iv key, iv 0, iv (-1 : Int32), iv 0, iv (K 0)]) rfl ?_
    refine XS.goto X0.here hx rfl (pc0 := 57) (pc' := 63) rfl (hb hby d9_57) (by decide) (by decide) ?_
    refine XS.goto X0.here hx rfl (pc0 := 63) (pc' := 8) rfl (hb hby d9_63) (by decide) (by decide) ?_
    refine XS.iload X0.here hx rfl (hb hby d9_8) rfl ?_
    refine XS.iload X0.here hx rfl (hb hby d9_10) rfl ?_
    refine XS.icmpYes X0.here hx rfl (pc0 := 12) (pc' := 66) rfl (hb hby d9_12) rfl (tlt hc18).2.2.1 (by decide) (by decide) ?_
    refine XS.iload X0.here hx rfl (hb hby d9_66) rfl ?_
    refine XS.iconst X0.here hx rfl (hb hby d9_68) ?_
    refine XS.iadd X0.here hx rfl (hb hby d9_69) rfl ?_
    refine XS.ineg X0.here hx rfl (hb hby d9_70) rfl ?_
    exact kt)
   obtain ⟨fs, hr, hrun, hended, hW, hsame⟩ := X0.leave (v := (some (.int (-((0 : Int32) + (1 : Int32)))))) (fun h => by rw [Bd.returns] at h; cases h)
   subst hB0
   refine ⟨_, _, st19 _ ?_, hrun, hended, _, _, rfl, ?_, ⟨_, rfl⟩, hW, hsame.mono (by decide) (by decide)⟩
   ·exact retOut X0 hx Bd.returns rfl (Or.inl ⟨rfl, Or.inl rfl, _, rfl⟩) (hb hby d9_71) hr
   ·show Q_rm_bs0_2 Z ak key cap K h0 n0 _ s₁.heap _
    rw [e0]
    exact ⟨_, rfl, Or.inr ⟨0, by decide, by decide, fun j hj => absurd hj (Nat.not_lt_zero _), fun j h1 h2 => match j, h1, h2 with | 0, _, _ => s0 | 1, _, _ => own_ltt s0 (hasc rfl) | _ + 2, _, z => absurd z (by omega)⟩, N0, rfl⟩
  ·have st20 : own_K p e below s₁ m 62 #[rv ak, iv 0, iv 2, iv key, iv 0, iv 1, iv 0, iv (K 0)] [.int 0] B0 := fun t kt => st17 t (by
    refine XS.icmpYes X0.here hx rfl (pc0 := 48) (pc' := 60) rfl (hb hby d9_48) rfl (flt s0).2.2.2 (by decide) (by decide) ?_
    refine XS.iload X0.here hx rfl (hb hby d9_60) rfl ?_
    exact kt)
   obtain ⟨fs, hr, hrun, hended, hW, hsame⟩ := X0.leave (v := (some (.int 0))) (fun h => by rw [Bd.returns] at h; cases h)
   subst hB0
   refine ⟨_, _, st20 _ ?_, hrun, hended, _, _, rfl, ?_, ⟨_, rfl⟩, hW, hsame.mono (by decide) (by decide)⟩
   ·exact retOut X0 hx Bd.returns rfl (Or.inl ⟨rfl, Or.inl rfl, _, rfl⟩) (hb hby d9_62) hr
   ·show Q_rm_bs0_2 Z ak key cap K h0 n0 _ s₁.heap _
    rw [e0]
    exact ⟨_, rfl, Or.inl ⟨0, by decide, by decide, own_le2 p0 s0⟩, N0, rfl⟩
def Q_rm_rc_2 (Z : State) (ul : Int32) (h0 : Heap) (n0 : Nat) (v : Option Value) (h : Heap) (L : List Loc) : Prop := v = none ∧ Fr n0 L ∧ h = h0
set_option maxRecDepth 65536 in
set_option maxHeartbeats 40000000 in
theorem rm_rc_2 (l : Launch) (Z : State) (a0 : Array Value) (hw : ∀ d ∈ tables_1, d.before a0 Z = true) (ws : List Jvm.Cond) (ul : Int32) (h0 : Heap) (n0 : Nat) (Z0 : n0 ≤ h0.size) (hul : ¬ ul < 2) :
  MetFree l (⟨"java/util/Arrays", "rangeCheck", "(III)V"⟩ : MethodName) (head1 (Jvm.Cond.code (⟨"java/util/Arrays", "rangeCheck", "(III)V"⟩ : MethodName) jdk_65_method_30_code 3 none :: ws) ({ frames := 0, cells := 0, slots := 0, locals := 0 } : Room)) (fun a U => a = #[.int ul, .int 0, .int 2] ∧ Z.Warmed39 U.vm ∧ U.heap = h0) (fun _ _ _ _ _ => True) (fun _ U o U' => ∃ v L, o = .returned v ∧ Q_rm_rc_2 Z ul h0 n0 v U'.heap L ∧ FrameEnd U o U' L ({ frames := 0, cells := 0, slots := 0, locals := 0 } : Room).cells ({ frames := 0, cells := 0, slots := 0, locals := 0 } : Room).slots) := by
 refine MetFree.of_bodySF (plainFor_of_name own_pn0) hisR ?_
 intro p e s m args below meth c s₁ Bd hml0 hP hK
 obtain ⟨rfl, hZ, hh⟩ := hP
 have hx := Bd.exec
 have hby := Bd.bytes
 have hml : c.maxLocals = 3 := hml0
 have hown : s.vm.findClass "java/util/Arrays" = some m.cls := findClass_of_methodNamed Bd.named
 have hnm := (name_of_methodNamed Bd.named Bd.method).1
 have X0 : Stand p l e ({ frames := 0, cells := 0, slots := 0, locals := 0 } : Room) s m #[.int ul, .int 0, .int 2] below meth c s₁ [] 0 0 := Stand.of_body Bd
 have e0 : s₁.heap = h0 := by rw [← hh, Bd.state]; rfl
 have N0 := Fr.nil n0
 obtain ⟨B0, hB0⟩ : ∃ B, B = (s₁.setTop (entryFrame m #[.int ul, .int 0, .int 2] 3)) := ⟨_, rfl⟩
 have st0 : own_K p e below s₁ m 0 #[iv ul, iv 0, iv 2] [] B0 := fun t kk0 => hB0 ▸ castTop (own_ef8_III m ul (0 : Int32) (2 : Int32)) kk0
 have hc1 : ¬ ((2 : Int32) < (0 : Int32)) := by decide
 have hc2 : ¬ ((0 : Int32) < (0 : Int32)) := by decide
 have hc3 : ¬ (ul < (2 : Int32)) := hul
 have st4 : own_K p e below s₁ m 73 #[iv ul, iv 0, iv 2] [] B0 := fun t kt => st0 t (by
  refine XS.iloadN X0.here hx rfl (hb hby d8_0) rfl ?_
  refine XS.iloadN X0.here hx rfl (hb hby d8_1) rfl ?_
  refine XS.icmpYes X0.here hx rfl (pc0 := 2) (pc' := 46) rfl (hb hby d8_2) rfl (flt hc1).2.2.2 (by decide) (by decide) ?_
  refine XS.iloadN X0.here hx rfl (hb hby d8_46) rfl ?_
  refine XS.ifYes X0.here hx rfl (pc0 := 47) (pc' := 59) rfl (hb hby d8_47) rfl ((if0 _ _).trans (flt hc2).2.1) (by decide) (by decide) ?_
  refine XS.iloadN X0.here hx rfl (hb hby d8_59) rfl ?_
  refine XS.iloadN X0.here hx rfl (hb hby d8_60) rfl ?_
  refine XS.icmpYes X0.here hx rfl (pc0 := 61) (pc' := 73) rfl (hb hby d8_61) rfl (flt hc3).2.2.2 (by decide) (by decide) ?_
  exact kt)
 obtain ⟨fs, hr, hrun, hended, hW, hsame⟩ := X0.leave (v := none) (fun _ => rfl)
 subst hB0
 refine ⟨_, _, st4 _ ?_, hrun, hended, _, _, rfl, ?_, ⟨_, rfl⟩, hW, hsame.mono (by decide) (by decide)⟩
 ·exact X0.returnOut hx Bd.returns (hb hby d8_73) hr
 ·show Q_rm_rc_2 Z ul h0 n0 _ s₁.heap _
  rw [e0]
  exact ⟨rfl, N0, rfl⟩
def Q_rm_bs_2 (Z : State) (ak : Addr) (key : Int32) (cap : Nat) (K : Nat → Int32) (h0 : Heap) (n0 : Nat) (v : Option Value) (h : Heap) (L : List Loc) : Prop := ∃ r, v = some (.int r) ∧ own_Pos 2 K key r ∧ Fr n0 L ∧ h = h0
set_option maxRecDepth 65536 in
set_option maxHeartbeats 40000000 in
theorem rm_bs_2 (l : Launch) (Z : State) (a0 : Array Value) (hw : ∀ d ∈ tables_1, d.before a0 Z = true) (ws : List Jvm.Cond) (ak : Addr) (key : Int32) (cap : Nat) (K : Nat → Int32) (h0 : Heap) (n0 : Nat) (Z0 : n0 ≤ h0.size) (Ak : own_Av Z h0 ak .int cap (fun q => .int (K q))) (hcap : 2 ≤ cap) (hasc : 2 = 2 → K 0 < K 1) :
  MetFree l (⟨"java/util/Arrays", "binarySearch", "([IIII)I"⟩ : MethodName) (head1 (Jvm.Cond.code (⟨"java/util/Arrays", "binarySearch", "([IIII)I"⟩ : MethodName) jdk_65_method_58_code 4 (some .int) :: ws) ({ frames := 1, cells := 0, slots := 0, locals := 19 } : Room)) (fun a U => a = #[.ref ak, .int 0, .int 2, .int key] ∧ Z.Warmed39 U.vm ∧ U.heap = h0) (fun _ _ _ _ _ => True) (fun _ U o U' => ∃ v L, o = .returned v ∧ Q_rm_bs_2 Z ak key cap K h0 n0 v U'.heap L ∧ FrameEnd U o U' L ({ frames := 1, cells := 0, slots := 0, locals := 19 } : Room).cells ({ frames := 1, cells := 0, slots := 0, locals := 19 } : Room).slots) := by
 refine MetFree.of_bodySF (plainFor_of_name own_pn0) hisR ?_
 intro p e s m args below meth c s₁ Bd hml0 hP hK
 obtain ⟨rfl, hZ, hh⟩ := hP
 have hx := Bd.exec
 have hby := Bd.bytes
 have hml : c.maxLocals = 4 := hml0
 have hown : s.vm.findClass "java/util/Arrays" = some m.cls := findClass_of_methodNamed Bd.named
 have hnm := (name_of_methodNamed Bd.named Bd.method).1
 have X0 : Stand p l e ({ frames := 1, cells := 0, slots := 0, locals := 19 } : Room) s m #[.ref ak, .int 0, .int 2, .int key] below meth c s₁ [] 0 0 := Stand.of_body Bd
 have e0 : s₁.heap = h0 := by rw [← hh, Bd.state]; rfl
 have N0 := Fr.nil n0
 obtain ⟨B0, hB0⟩ : ∃ B, B = (s₁.setTop (entryFrame m #[.ref ak, .int 0, .int 2, .int key] 4)) := ⟨_, rfl⟩
 have st0 : own_K p e below s₁ m 0 #[rv ak, iv 0, iv 2, iv key] [] B0 := fun t kk0 => hB0 ▸ castTop (own_ef7_RIII m ak (0 : Int32) (2 : Int32) key) kk0
 have hc31 := Ak.small
 have st1 : own_K p e below s₁ m 1 #[rv ak, iv 0, iv 2, iv key] [.ref ak] B0 := fun t kt => st0 t (by
  refine XS.aloadN X0.here hx rfl (hb hby d7_0) rfl rfl ?_
  exact kt)
 have ls2 := own_alen X0 hx hZ e0 Ak (g := (mkF m 1 #[rv ak, iv 0, iv 2, iv key] [.ref ak])) rfl rfl (hb hby d7_1)
 have st3 := fun t kt => st1 t (ls2 t kt)
 have st4 : own_K p e below s₁ m 4 #[rv ak, iv 0, iv 2, iv key] [.int 2, .int 0, .int (Int32.ofNat cap)] B0 := fun t kt => st3 t (by
  refine XS.iloadN X0.here hx rfl (hb hby d7_2) rfl ?_
  refine XS.iloadN X0.here hx rfl (hb hby d7_3) rfl ?_
  exact kt)
 obtain ⟨_, _, ⟨T5, L5, k5, n5⟩, -, X5, ⟨Lc5, hQ5, l5, y5, z5⟩, ls5⟩ := Jvm.LawKit.callS X0 hx (y := (⟨"java/util/Arrays", "rangeCheck", "(III)V"⟩ : MethodName)) hown (mvT hZ (own_w hw 51 rfl)) (mvT hZ (own_w hw 52 rfl)) (mvT hZ (own_w hw 49 rfl)) (mvT hZ (own_w hw 53 rfl)) (by decide) (backOf (W := 0) (rm_rc_2 l Z a0 hw [] ((Int32.ofNat cap)) h0 n0 Z0 (by
   rw [show (2 : Int32) = Int32.ofNat 2 from rfl, own_ltN hc31 (by decide)]
   omega)) hZ (own_w hw 53 rfl) (own_w hw 49 rfl) (by decide) (by decide)) (g := (mkF m 4 #[rv ak, iv 0, iv 2, iv key] [.int 2, .int 0, .int (Int32.ofNat cap)])) rfl (by rw [hml]; rfl) (argsL := [.int (Int32.ofNat cap), .int 0, .int 2]) (rest := []) (lenOf own_pd3 rfl) rfl (by show 2 * 0 + _ ≤ _; exact Nat.le_of_eq rfl) (hb hby d7_4) (fun _ _ => ⟨rfl, e0, (by decide : 0 + 0 ≤ _), (by decide : 0 + 0 ≤ _)⟩)
 dsimp only [Pt.U, Pt.locs, Pt.cells, Pt.slots] at X5 l5 y5 z5 ls5 hQ5
 subst l5 y5 z5
 obtain ⟨rfl, Nq5, eq5⟩ := hQ5
 have N5 := Fr.app N0 Nq5
 have st6 := fun t kt => st4 t (ls5 t kt)
 have st7 : own_K p e below T5 m 11 #[rv ak, iv 0, iv 2, iv key] [.int key, .int 2, .int 0, .ref ak] B0 := fun t kt => st6 t (by
  refine XS.aloadN X5.here hx rfl (hb hby d7_7) rfl rfl ?_
  refine XS.iloadN X5.here hx rfl (hb hby d7_8) rfl ?_
  refine XS.iloadN X5.here hx rfl (hb hby d7_9) rfl ?_
  refine XS.iloadN X5.here hx rfl (hb hby d7_10) rfl ?_
  exact kt)
 obtain ⟨_, _, ⟨T8, L8, k8, n8⟩, -, X8, ⟨Lc8, hQ8, l8, y8, z8⟩, ls8⟩ := Jvm.LawKit.callS X5 hx (y := (⟨"java/util/Arrays", "binarySearch0", "([IIII)I"⟩ : MethodName)) hown (mvT hZ (own_w hw 54 rfl)) (mvT hZ (own_w hw 55 rfl)) (mvT hZ (own_w hw 49 rfl)) (mvT hZ (own_w hw 56 rfl)) (by decide) (backOf (W := 0) (rm_bs0_2 l Z a0 hw [] ak key cap K h0 n0 Z0 Ak hcap hasc) hZ (own_w hw 56 rfl) (own_w hw 49 rfl) (by decide) (by decide)) (g := (mkF m 11 #[rv ak, iv 0, iv 2, iv key] [.int key, .int 2, .int 0, .ref ak])) rfl (by rw [hml]; rfl) (argsL := [.ref ak, .int 0, .int 2, .int key]) (rest := []) (lenOf own_pd4 rfl) rfl (by show 2 * 0 + _ ≤ _; exact Nat.le_of_eq rfl) (hb hby d7_11) (fun _ _ => ⟨rfl, eq5, (by decide : 0 + 0 ≤ _), (by decide : 0 + 0 ≤ _)⟩)
 dsimp only [Pt.U, Pt.locs, Pt.cells, Pt.slots] at X8 l8 y8 z8 ls8 hQ8
 subst l8 y8 z8
 obtain ⟨r8, rfl, hr8, Nq8, eq8⟩ := hQ8
 have N8 := Fr.app N5 Nq8
 have st9 := fun t kt => st7 t (ls8 t kt)
 obtain ⟨fs, hr, hrun, hended, hW, hsame⟩ := X8.leave (v := (some (.int r8))) (fun h => by rw [Bd.returns] at h; cases h)
 subst hB0
 refine ⟨_, _, st9 _ ?_, hrun, hended, _, _, rfl, ?_, ⟨_, rfl⟩, hW, hsame.mono (by decide) (by decide)⟩
 ·exact retOut X8 hx Bd.returns rfl (Or.inl ⟨rfl, Or.inl rfl, _, rfl⟩) (hb hby d7_14) hr
 ·show Q_rm_bs_2 Z ak key cap K h0 n0 _ T8.heap _
  rw [eq8]
  exact ⟨_, rfl, hr8, N8, rfl⟩
def Q_rm_position (Z : State) (ao : Addr) (key : Int32) (nb : Nat) (cap : Nat) (K : Nat → Int32) (S : Nat → Nat) (Ch : Nat → Int32) (ct : Int32) (ev : Nat) (h0 : Heap) (n0 : Nat) (v : Option Value) (h : Heap) (L : List Loc) : Prop := ∃ r, v = some (.int r) ∧ own_Pos nb K key r ∧ Fr n0 L ∧ n0 ≤ h.size ∧ own_Sm (fun x => n0 ≤ x) h0 h ∧ ∃ lk', own_N Z h n0 ao nb cap K S Ch ct lk' ev
set_option maxRecDepth 65536 in
set_option maxHeartbeats 40000000 in
theorem rm_position (l : Launch) (Z : State) (a0 : Array Value) (hw : ∀ d ∈ tables_1, d.before a0 Z = true) (ws : List Jvm.Cond) (ao : Addr) (key : Int32) (nb : Nat) (cap : Nat) (K : Nat → Int32) (S : Nat → Nat) (Ch : Nat → Int32) (ct : Int32) (ev : Nat) (h0 : Heap) (n0 : Nat) (Z0 : n0 ≤ h0.size) (Nn : own_N Z h0 n0 ao nb cap K S Ch ct (-1) ev) (hnb : nb = 0 ∨ nb = 1 ∨ nb = 2) (hnc : nb ≤ cap) (hasc : nb = 2 → K 0 < K 1) (hkey : 0 ≤ key.toInt) :
  MetFree l (⟨"com/example/saturation/saturation/OpenNode", "position", "(I)I"⟩ : MethodName) (head1 (Jvm.Cond.code (⟨"com/example/saturation/saturation/OpenNode", "position", "(I)I"⟩ : MethodName) prog_38_method_9_code 3 (some .int) :: ws) ({ frames := 2, cells := 0, slots := 0, locals := 34 } : Room)) (fun a U => a = #[.ref ao, .int key] ∧ Z.Warmed39 U.vm ∧ U.heap = h0) (fun _ _ _ _ _ => True) (fun _ U o U' => ∃ v L, o = .returned v ∧ Q_rm_position Z ao key nb cap K S Ch ct ev h0 n0 v U'.heap L ∧ FrameEnd U o U' L ({ frames := 2, cells := 0, slots := 0, locals := 34 } : Room).cells ({ frames := 2, cells := 0, slots := 0, locals := 34 } : Room).slots) := by
 refine MetFree.of_bodySF (plainFor_of_name own_pn1) hisR ?_
 intro p e s m args below meth c s₁ Bd hml0 hP hK
 obtain ⟨rfl, hZ, hh⟩ := hP
 have hx := Bd.exec
 have hby := Bd.bytes
 have hml : c.maxLocals = 3 := hml0
 have hown : s.vm.findClass "com/example/saturation/saturation/OpenNode" = some m.cls := findClass_of_methodNamed Bd.named
 have hnm := (name_of_methodNamed Bd.named Bd.method).1
 have X0 : Stand p l e ({ frames := 2, cells := 0, slots := 0, locals := 34 } : Room) s m #[.ref ao, .int key] below meth c s₁ [] 0 0 := Stand.of_body Bd
 have e0 : s₁.heap = h0 := by rw [← hh, Bd.state]; rfl
 have N0 := Fr.nil n0
 obtain ⟨B0, hB0⟩ : ∃ B, B = (s₁.setTop (entryFrame m #[.ref ao, .int key] 3)) := ⟨_, rfl⟩
 have st0 : own_K p e below s₁ m 0 #[rv ao, iv key, .unset] [] B0 := fun t kk0 => hB0 ▸ castTop (own_ef6_RI m ao key) kk0
 have hk1 : ¬ key = -1 := fun z => by rw [z] at hkey; exact absurd hkey (by decide)
 have S0 : own_Sm (fun x => n0 ≤ x) h0 h0 := own_Sm.refl
 rcases hnb with rfl | rfl | rfl
 ·obtain ⟨E_ao, F_bl, F_ct, F_lk, ⟨lp, F_lp⟩, bk, bl, bc, bp, bq, hge, nd, F_ke, F_sl, F_ch, F_pe, F_pc, A_bk, A_bl, A_bc, ⟨pf, A_bp, H_pf⟩, gq, A_bq⟩ := Nn
  have g_ao := hge ao (List.mem_of_getElem? (i := 0) rfl)
  have ne_ao_bk := own_nd nd 0 1 rfl rfl (by decide)
  have ne_ao_bl := own_nd nd 0 2 rfl rfl (by decide)
  have ne_ao_bc := own_nd nd 0 3 rfl rfl (by decide)
  have ne_ao_bp := own_nd nd 0 4 rfl rfl (by decide)
  have ne_ao_bq := own_nd nd 0 5 rfl rfl (by decide)
  have g_bk := hge bk (List.mem_of_getElem? (i := 1) rfl)
  have ne_bk_bl := own_nd nd 1 2 rfl rfl (by decide)
  have ne_bk_bc := own_nd nd 1 3 rfl rfl (by decide)
  have ne_bk_bp := own_nd nd 1 4 rfl rfl (by decide)
  have ne_bk_bq := own_nd nd 1 5 rfl rfl (by decide)
  have g_bl := hge bl (List.mem_of_getElem? (i := 2) rfl)
  have ne_bl_bc := own_nd nd 2 3 rfl rfl (by decide)
  have ne_bl_bp := own_nd nd 2 4 rfl rfl (by decide)
  have ne_bl_bq := own_nd nd 2 5 rfl rfl (by decide)
  have g_bc := hge bc (List.mem_of_getElem? (i := 3) rfl)
  have ne_bc_bp := own_nd nd 3 4 rfl rfl (by decide)
  have ne_bc_bq := own_nd nd 3 5 rfl rfl (by decide)
  have g_bp := hge bp (List.mem_of_getElem? (i := 4) rfl)
  have ne_bp_bq := own_nd nd 4 5 rfl rfl (by decide)
  have g_bq := hge bq (List.mem_of_getElem? (i := 5) rfl)
  have st1 : own_K p e below s₁ m 2 #[rv ao, iv key, .unset] [.ref ao, .int key] B0 := fun t kt => st0 t (by
   refine XS.iloadN X0.here hx rfl (hb hby d6_0) rfl ?_
   refine XS.aloadN X0.here hx rfl (hb hby d6_1) rfl rfl ?_
   exact kt)
  obtain ⟨T2, X2, e2, ls2⟩ := getF X0 hx hZ hown (host := "") (Or.inl (own_w hw 19 rfl)) Via.refl e0 F_lk (g := (mkF m 2 #[rv ao, iv key, .unset] [.ref ao, .int key])) rfl rfl (hb hby d6_2)
  have st3 := fun t kt => st1 t (ls2 t kt)
  have hc4 : ¬ (key = (-1 : Int32)) := hk1
  have st5 : own_K p e below T2 m 17 #[rv ao, iv key, .unset] [.ref ao] B0 := fun t kt => st3 t (by
   refine XS.icmpYes X2.here hx rfl (pc0 := 5) (pc' := 16) rfl (hb hby d6_5) rfl (feq hc4).2 (by decide) (by decide) ?_
   refine XS.aloadN X2.here hx rfl (hb hby d6_16) rfl rfl ?_
   exact kt)
  obtain ⟨T6, X6, e6, ls6⟩ := getF X2 hx hZ hown (host := "") (Or.inl (own_w hw 21 rfl)) Via.refl e2 F_ke (g := (mkF m 17 #[rv ao, iv key, .unset] [.ref ao])) rfl rfl (hb hby d6_17)
  have st7 := fun t kt => st5 t (ls6 t kt)
  have st8 : own_K p e below T6 m 22 #[rv ao, iv key, .unset] [.ref ao, .int 0, .ref bk] B0 := fun t kt => st7 t (by
   refine XS.iconst X6.here hx rfl (hb hby d6_20) ?_
   refine XS.aloadN X6.here hx rfl (hb hby d6_21) rfl rfl ?_
   exact kt)
  obtain ⟨T9, X9, e9, ls9⟩ := getF X6 hx hZ hown (host := "") (Or.inl (own_w hw 45 rfl)) Via.refl e6 F_bl (g := (mkF m 22 #[rv ao, iv key, .unset] [.ref ao, .int 0, .ref bk])) rfl rfl (hb hby d6_22)
  have st10 := fun t kt => st8 t (ls9 t kt)
  have st11 : own_K p e below T9 m 26 #[rv ao, iv key, .unset] [.int key, .int 0, .int 0, .ref bk] B0 := fun t kt => st10 t (by
   refine XS.iloadN X9.here hx rfl (hb hby d6_25) rfl ?_
   show own_At p e below T9 m 26 #[rv ao, iv key, .unset] [.int key, .int (Int32.ofNat 0), .int 0, .ref bk] _
   rw [show (Int32.ofNat 0) = (0 : Int32) from (rfl)]
   exact kt)
  obtain ⟨_, _, ⟨T12, L12, k12, n12⟩, -, X12, ⟨Lc12, hQ12, l12, y12, z12⟩, ls12⟩ := Jvm.LawKit.callS X9 hx (y := (⟨"java/util/Arrays", "binarySearch", "([IIII)I"⟩ : MethodName)) hown (mvT hZ (own_w hw 47 rfl)) (mvT hZ (own_w hw 48 rfl)) (mvT hZ (own_w hw 49 rfl)) (mvT hZ (own_w hw 50 rfl)) (by decide) (backOf (W := 0) (rm_bs_0 l Z a0 hw [] bk key cap K h0 n0 Z0 A_bk hnc hasc) hZ (own_w hw 50 rfl) (own_w hw 49 rfl) (by decide) (by decide)) (g := (mkF m 26 #[rv ao, iv key, .unset] [.int key, .int 0, .int 0, .ref bk])) rfl (by rw [hml]; rfl) (argsL := [.ref bk, .int 0, .int 0, .int key]) (rest := []) (lenOf own_pd4 rfl) rfl (by show 2 * 0 + _ ≤ _; exact Nat.le_of_eq rfl) (hb hby d6_26) (fun _ _ => ⟨rfl, e9, (by decide : 0 + 0 ≤ _), (by decide : 0 + 0 ≤ _)⟩)
  dsimp only [Pt.U, Pt.locs, Pt.cells, Pt.slots] at X12 l12 y12 z12 ls12 hQ12
  subst l12 y12 z12
  obtain ⟨r12, rfl, hr12, Nq12, eq12⟩ := hQ12
  have N12 := Fr.app N0 Nq12
  have st13 := fun t kt => st11 t (ls12 t kt)
  have st14 : own_K p e below T12 m 31 #[rv ao, iv key, iv r12] [.int r12] B0 := fun t kt => st13 t (by
   refine XS.istoreN X12.here hx rfl (hb hby d6_29) rfl (l' := #[rv ao, iv key, iv r12]) rfl ?_
   refine XS.iloadN X12.here hx rfl (hb hby d6_30) rfl ?_
   exact kt)
  by_cases q1 : r12 < (0 : Int32)
  ·have st15 : own_K p e below T12 m 45 #[rv ao, iv key, iv r12] [.int r12] B0 := fun t kt => st14 t (by
    refine XS.ifYes X12.here hx rfl (pc0 := 31) (pc' := 44) rfl (hb hby d6_31) rfl ((if0 _ _).trans (tlt q1).1) (by decide) (by decide) ?_
    refine XS.iloadN X12.here hx rfl (hb hby d6_44) rfl ?_
    exact kt)
   obtain ⟨fs, hr, hrun, hended, hW, hsame⟩ := X12.leave (v := (some (.int r12))) (fun h => by rw [Bd.returns] at h; cases h)
   subst hB0
   refine ⟨_, _, st15 _ ?_, hrun, hended, _, _, rfl, ?_, ⟨_, rfl⟩, hW, hsame.mono (by decide) (by decide)⟩
   ·exact retOut X12 hx Bd.returns rfl (Or.inl ⟨rfl, Or.inl rfl, _, rfl⟩) (hb hby d6_45) hr
   ·show Q_rm_position Z ao key 0 cap K S Ch ct ev h0 n0 _ T12.heap _
    rw [eq12]
    exact ⟨_, rfl, hr12, N12, Z0, S0, _, ⟨E_ao, F_bl, F_ct, F_lk, ⟨_, F_lp⟩, bk, bl, bc, bp, bq, by
     intro x hx
     simp only [List.mem_cons, List.not_mem_nil, or_false] at hx
     rcases hx with rfl | rfl | rfl | rfl | rfl | rfl
     ·exact g_ao
     ·exact g_bk
     ·exact g_bl
     ·exact g_bc
     ·exact g_bp
     ·exact g_bq, by simp [ne_ao_bk, ne_ao_bl, ne_ao_bc, ne_ao_bp, ne_ao_bq, ne_bk_bl, ne_bk_bc, ne_bk_bp, ne_bk_bq, ne_bl_bc, ne_bl_bp, ne_bl_bq, ne_bc_bp, ne_bc_bq, ne_bp_bq], F_ke, F_sl, F_ch, F_pe, F_pc, A_bk, A_bl, A_bc, ⟨pf, A_bp, H_pf⟩, _, A_bq⟩⟩
  ·have st16 : own_K p e below T12 m 36 #[rv ao, iv key, iv r12] [.int key, .ref ao] B0 := fun t kt => st14 t (by
    refine XS.ifNo X12.here hx rfl (hb hby d6_31) rfl ((if0 _ _).trans (flt q1).1) ?_
    refine XS.aloadN X12.here hx rfl (hb hby d6_34) rfl rfl ?_
    refine XS.iloadN X12.here hx rfl (hb hby d6_35) rfl ?_
    exact kt)
   obtain ⟨T17, h17, X17, e17, W17, ls17⟩ := putF X12 hx hZ hown (host := "") (Or.inl (own_w hw 19 rfl)) Via.refl eq12 F_lk E_ao (Or.inl (own_w hw 20 rfl)) (own_w hw 11 rfl) (ty := .int) (by decide) rfl rfl (g := (mkF m 36 #[rv ao, iv key, iv r12] [.int key, .ref ao])) rfl rfl (hb hby d6_36)
   have N17 := Fr.snoc X17 N12 g_ao
   have f18 := E_ao.wr W17
   have f19 := F_bl.other W17 (Or.inr (own_s46_20 hw))
   have f20 := F_ct.other W17 (Or.inr (own_s29_20 hw))
   have f21 := F_lk.same W17
   have f22 := F_lp.other W17 (Or.inr (own_s66_20 hw))
   have f23 := F_ke.other W17 (Or.inr (own_s22_20 hw))
   have f24 := F_sl.other W17 (Or.inr (own_s24_20 hw))
   have f25 := F_ch.other W17 (Or.inr (own_s26_20 hw))
   have f26 := F_pe.other W17 (Or.inr (own_s33_20 hw))
   have f27 := F_pc.other W17 (Or.inr (own_s35_20 hw))
   have f28 := A_bk.other W17 (Ne.symm ne_ao_bk)
   have f29 := A_bl.other W17 (Ne.symm ne_ao_bl)
   have f30 := A_bc.other W17 (Ne.symm ne_ao_bc)
   have f31 := A_bp.other W17 (Ne.symm ne_ao_bp)
   have f32 := A_bq.other W17 (Ne.symm ne_ao_bq)
   have f33 := H_pf.wrO W17 E_ao (by decide)
   have f34 := S0.wr W17 g_ao
   have z35 := Nat.le_trans Z0 (Keep.of_wr W17).1
   have st36 := fun t kt => st16 t (ls17 t kt)
   have st37 : own_K p e below T17 m 41 #[rv ao, iv key, iv r12] [.int r12, .ref ao] B0 := fun t kt => st36 t (by
    refine XS.aloadN X17.here hx rfl (hb hby d6_39) rfl rfl ?_
    refine XS.iloadN X17.here hx rfl (hb hby d6_40) rfl ?_
    exact kt)
   obtain ⟨T38, h38, X38, e38, W38, ls38⟩ := putF X17 hx hZ hown (host := "") (Or.inl (own_w hw 65 rfl)) Via.refl e17 f22 f18 (Or.inl (own_w hw 66 rfl)) (own_w hw 11 rfl) (ty := .int) (by decide) rfl rfl (g := (mkF m 41 #[rv ao, iv key, iv r12] [.int r12, .ref ao])) rfl rfl (hb hby d6_41)
   have N38 := Fr.snoc X38 N17 g_ao
   have f39 := f18.wr W38
   have f40 := f19.other W38 (Or.inr (own_s46_66 hw))
   have f41 := f20.other W38 (Or.inr (own_s29_66 hw))
   have f42 := f21.other W38 (Or.inr (own_s20_66 hw))
   have f43 := f22.same W38
   have f44 := f23.other W38 (Or.inr (own_s22_66 hw))
   have f45 := f24.other W38 (Or.inr (own_s24_66 hw))
   have f46 := f25.other W38 (Or.inr (own_s26_66 hw))
   have f47 := f26.other W38 (Or.inr (own_s33_66 hw))
   have f48 := f27.other W38 (Or.inr (own_s35_66 hw))
   have f49 := f28.other W38 (Ne.symm ne_ao_bk)
   have f50 := f29.other W38 (Ne.symm ne_ao_bl)
   have f51 := f30.other W38 (Ne.symm ne_ao_bc)
   have f52 := f31.other W38 (Ne.symm ne_ao_bp)
   have f53 := f32.other W38 (Ne.symm ne_ao_bq)
   have f54 := f33.wrO W38 f18 (by decide)
   have f55 := f34.wr W38 g_ao
   have z56 := Nat.le_trans z35 (Keep.of_wr W38).1
   have st57 := fun t kt => st37 t (ls38 t kt)
   have st58 : own_K p e below T38 m 45 #[rv ao, iv key, iv r12] [.int r12] B0 := fun t kt => st57 t (by
    refine XS.iloadN X38.here hx rfl (hb hby d6_44) rfl ?_
    exact kt)
   obtain ⟨fs, hr, hrun, hended, hW, hsame⟩ := X38.leave (v := (some (.int r12))) (fun h => by rw [Bd.returns] at h; cases h)
   subst hB0
   refine ⟨_, _, st58 _ ?_, hrun, hended, _, _, rfl, ?_, ⟨_, rfl⟩, hW, hsame.mono (by decide) (by decide)⟩
   ·exact retOut X38 hx Bd.returns rfl (Or.inl ⟨rfl, Or.inl rfl, _, rfl⟩) (hb hby d6_45) hr
   ·show Q_rm_position Z ao key 0 cap K S Ch ct ev h0 n0 _ T38.heap _
    rw [e38]
    exact ⟨_, rfl, hr12, N38, z56, f55, _, ⟨f39, f40, f41, f42, ⟨_, f43⟩, bk, bl, bc, bp, bq, by
     intro x hx
     simp only [List.mem_cons, List.not_mem_nil, or_false] at hx
     rcases hx with rfl | rfl | rfl | rfl | rfl | rfl
     ·exact g_ao
     ·exact g_bk
     ·exact g_bl
     ·exact g_bc
     ·exact g_bp
     ·exact g_bq, by simp [ne_ao_bk, ne_ao_bl, ne_ao_bc, ne_ao_bp, ne_ao_bq, ne_bk_bl, ne_bk_bc, ne_bk_bp, ne_bk_bq, ne_bl_bc, ne_bl_bp, ne_bl_bq, ne_bc_bp, ne_bc_bq, ne_bp_bq], f44, f45, f46, f47, f48, f49, f50, f51, ⟨pf, f52, f54⟩, _, f53⟩⟩
 ·obtain ⟨E_ao, F_bl, F_ct, F_lk, ⟨lp, F_lp⟩, bk, bl, bc, bp, bq, hge, nd, F_ke, F_sl, F_ch, F_pe, F_pc, A_bk, A_bl, A_bc, ⟨pf, A_bp, H_pf⟩, gq, A_bq⟩ := Nn
  have g_ao := hge ao (List.mem_of_getElem? (i := 0) rfl)
  have ne_ao_bk := own_nd nd 0 1 rfl rfl (by decide)
  have ne_ao_bl := own_nd nd 0 2 rfl rfl (by decide)
  have ne_ao_bc := own_nd nd 0 3 rfl rfl (by decide)
  have ne_ao_bp := own_nd nd 0 4 rfl rfl (by decide)
  have ne_ao_bq := own_nd nd 0 5 rfl rfl (by decide)
  have g_bk := hge bk (List.mem_of_getElem? (i := 1) rfl)
  have ne_bk_bl := own_nd nd 1 2 rfl rfl (by decide)
  have ne_bk_bc := own_nd nd 1 3 rfl rfl (by decide)
  have ne_bk_bp := own_nd nd 1 4 rfl rfl (by decide)
  have ne_bk_bq := own_nd nd 1 5 rfl rfl (by decide)
  have g_bl := hge bl (List.mem_of_getElem? (i := 2) rfl)
  have ne_bl_bc := own_nd nd 2 3 rfl rfl (by decide)
  have ne_bl_bp := own_nd nd 2 4 rfl rfl (by decide)
  have ne_bl_bq := own_nd nd 2 5 rfl rfl (by decide)
  have g_bc := hge bc (List.mem_of_getElem? (i := 3) rfl)
  have ne_bc_bp := own_nd nd 3 4 rfl rfl (by decide)
  have ne_bc_bq := own_nd nd 3 5 rfl rfl (by decide)
  have g_bp := hge bp (List.mem_of_getElem? (i := 4) rfl)
  have ne_bp_bq := own_nd nd 4 5 rfl rfl (by decide)
  have g_bq := hge bq (List.mem_of_getElem? (i := 5) rfl)
  have st59 : own_K p e below s₁ m 2 #[rv ao, iv key, .unset] [.ref ao, .int key] B0 := fun t kt => st0 t (by
   refine XS.iloadN X0.here hx rfl (hb hby d6_0) rfl ?_
   refine XS.aloadN X0.here hx rfl (hb hby d6_1) rfl rfl ?_
   exact kt)
  obtain ⟨T60, X60, e60, ls60⟩ := getF X0 hx hZ hown (host := "") (Or.inl (own_w hw 19 rfl)) Via.refl e0 F_lk (g := (mkF m 2 #[rv ao, iv key, .unset] [.ref ao, .int key])) rfl rfl (hb hby d6_2)
  have st61 := fun t kt => st59 t (ls60 t kt)
  have hc62 : ¬ (key = (-1 : Int32)) := hk1
  have st63 : own_K p e below T60 m 17 #[rv ao, iv key, .unset] [.ref ao] B0 := fun t kt => st61 t (by
   refine XS.icmpYes X60.here hx rfl (pc0 := 5) (pc' := 16) rfl (hb hby d6_5) rfl (feq hc62).2 (by decide) (by decide) ?_
   refine XS.aloadN X60.here hx rfl (hb hby d6_16) rfl rfl ?_
   exact kt)
  obtain ⟨T64, X64, e64, ls64⟩ := getF X60 hx hZ hown (host := "") (Or.inl (own_w hw 21 rfl)) Via.refl e60 F_ke (g := (mkF m 17 #[rv ao, iv key, .unset] [.ref ao])) rfl rfl (hb hby d6_17)
  have st65 := fun t kt => st63 t (ls64 t kt)
  have st66 : own_K p e below T64 m 22 #[rv ao, iv key, .unset] [.ref ao, .int 0, .ref bk] B0 := fun t kt => st65 t (by
   refine XS.iconst X64.here hx rfl (hb hby d6_20) ?_
   refine XS.aloadN X64.here hx rfl (hb hby d6_21) rfl rfl ?_
   exact kt)
  obtain ⟨T67, X67, e67, ls67⟩ := getF X64 hx hZ hown (host := "") (Or.inl (own_w hw 45 rfl)) Via.refl e64 F_bl (g := (mkF m 22 #[rv ao, iv key, .unset] [.ref ao, .int 0, .ref bk])) rfl rfl (hb hby d6_22)
  have st68 := fun t kt => st66 t (ls67 t kt)
  have st69 : own_K p e below T67 m 26 #[rv ao, iv key, .unset] [.int key, .int 1, .int 0, .ref bk] B0 := fun t kt => st68 t (by
   refine XS.iloadN X67.here hx rfl (hb hby d6_25) rfl ?_
   show own_At p e below T67 m 26 #[rv ao, iv key, .unset] [.int key, .int (Int32.ofNat 1), .int 0, .ref bk] _
   rw [show (Int32.ofNat 1) = (1 : Int32) from (rfl)]
   exact kt)
  obtain ⟨_, _, ⟨T70, L70, k70, n70⟩, -, X70, ⟨Lc70, hQ70, l70, y70, z70⟩, ls70⟩ := Jvm.LawKit.callS X67 hx (y := (⟨"java/util/Arrays", "binarySearch", "([IIII)I"⟩ : MethodName)) hown (mvT hZ (own_w hw 47 rfl)) (mvT hZ (own_w hw 48 rfl)) (mvT hZ (own_w hw 49 rfl)) (mvT hZ (own_w hw 50 rfl)) (by decide) (backOf (W := 0) (rm_bs_1 l Z a0 hw [] bk key cap K h0 n0 Z0 A_bk hnc hasc) hZ (own_w hw 50 rfl) (own_w hw 49 rfl) (by decide) (by decide)) (g := (mkF m 26 #[rv ao, iv key, .unset] [.int key, .int 1, .int 0, .ref bk])) rfl (by rw [hml]; rfl) (argsL := [.ref bk, .int 0, .int 1, .int key]) (rest := []) (lenOf own_pd4 rfl) rfl (by show 2 * 0 + _ ≤ _; exact Nat.le_of_eq rfl) (hb hby d6_26) (fun _ _ => ⟨rfl, e67, (by decide : 0 + 0 ≤ _), (by decide : 0 + 0 ≤ _)⟩)
  dsimp only [Pt.U, Pt.locs, Pt.cells, Pt.slots] at X70 l70 y70 z70 ls70 hQ70
  subst l70 y70 z70
  obtain ⟨r70, rfl, hr70, Nq70, eq70⟩ := hQ70
  have N70 := Fr.app N0 Nq70
  have st71 := fun t kt => st69 t (ls70 t kt)
  have st72 : own_K p e below T70 m 31 #[rv ao, iv key, iv r70] [.int r70] B0 := fun t kt => st71 t (by
   refine XS.istoreN X70.here hx rfl (hb hby d6_29) rfl (l' := #[rv ao, iv key, iv r70]) rfl ?_
   refine XS.iloadN X70.here hx rfl (hb hby d6_30) rfl ?_
   exact kt)
  by_cases q1 : r70 < (0 : Int32)
  ·have st73 : own_K p e below T70 m 45 #[rv ao, iv key, iv r70] [.int r70] B0 := fun t kt => st72 t (by
    refine XS.ifYes X70.here hx rfl (pc0 := 31) (pc' := 44) rfl (hb hby d6_31) rfl ((if0 _ _).trans (tlt q1).1) (by decide) (by decide) ?_
    refine XS.iloadN X70.here hx rfl (hb hby d6_44) rfl ?_
    exact kt)
   obtain ⟨fs, hr, hrun, hended, hW, hsame⟩ := X70.leave (v := (some (.int r70))) (fun h => by rw [Bd.returns] at h; cases h)
   subst hB0
   refine ⟨_, _, st73 _ ?_, hrun, hended, _, _, rfl, ?_, ⟨_, rfl⟩, hW, hsame.mono (by decide) (by decide)⟩
   ·exact retOut X70 hx Bd.returns rfl (Or.inl ⟨rfl, Or.inl rfl, _, rfl⟩) (hb hby d6_45) hr
   ·show Q_rm_position Z ao key 1 cap K S Ch ct ev h0 n0 _ T70.heap _
    rw [eq70]
    exact ⟨_, rfl, hr70, N70, Z0, S0, _, ⟨E_ao, F_bl, F_ct, F_lk, ⟨_, F_lp⟩, bk, bl, bc, bp, bq, by
     intro x hx
     simp only [List.mem_cons, List.not_mem_nil, or_false] at hx
     rcases hx with rfl | rfl | rfl | rfl | rfl | rfl
     ·exact g_ao
     ·exact g_bk
     ·exact g_bl
     ·exact g_bc
     ·exact g_bp
     ·exact g_bq, by simp [ne_ao_bk, ne_ao_bl, ne_ao_bc, ne_ao_bp, ne_ao_bq, ne_bk_bl, ne_bk_bc, ne_bk_bp, ne_bk_bq, ne_bl_bc, ne_bl_bp, ne_bl_bq, ne_bc_bp, ne_bc_bq, ne_bp_bq], F_ke, F_sl, F_ch, F_pe, F_pc, A_bk, A_bl, A_bc, ⟨pf, A_bp, H_pf⟩, _, A_bq⟩⟩
  ·have st74 : own_K p e below T70 m 36 #[rv ao, iv key, iv r70] [.int key, .ref ao] B0 := fun t kt => st72 t (by
    refine XS.ifNo X70.here hx rfl (hb hby d6_31) rfl ((if0 _ _).trans (flt q1).1) ?_
    refine XS.aloadN X70.here hx rfl (hb hby d6_34) rfl rfl ?_
    refine XS.iloadN X70.here hx rfl (hb hby d6_35) rfl ?_
    exact kt)
   obtain ⟨T75, h75, X75, e75, W75, ls75⟩ := putF X70 hx hZ hown (host := "") (Or.inl (own_w hw 19 rfl)) Via.refl eq70 F_lk E_ao (Or.inl (own_w hw 20 rfl)) (own_w hw 11 rfl) (ty := .int) (by decide) rfl rfl (g := (mkF m 36 #[rv ao, iv key, iv r70] [.int key, .ref ao])) rfl rfl (hb hby d6_36)
   have N75 := Fr.snoc X75 N70 g_ao
   have f76 := E_ao.wr W75
   have f77 := F_bl.other W75 (Or.inr (own_s46_20 hw))
   have f78 := F_ct.other W75 (Or.inr (own_s29_20 hw))
   have f79 := F_lk.same W75
   have f80 := F_lp.other W75 (Or.inr (own_s66_20 hw))
   have f81 := F_ke.other W75 (Or.inr (own_s22_20 hw))
   have f82 := F_sl.other W75 (Or.inr (own_s24_20 hw))
   have f83 := F_ch.other W75 (Or.inr (own_s26_20 hw))
   have f84 := F_pe.other W75 (Or.inr (own_s33_20 hw))
   have f85 := F_pc.other W75 (Or.inr (own_s35_20 hw))
   have f86 := A_bk.other W75 (Ne.symm ne_ao_bk)
   have f87 := A_bl.other W75 (Ne.symm ne_ao_bl)
   have f88 := A_bc.other W75 (Ne.symm ne_ao_bc)
   have f89 := A_bp.other W75 (Ne.symm ne_ao_bp)
   have f90 := A_bq.other W75 (Ne.symm ne_ao_bq)
   have f91 := H_pf.wrO W75 E_ao (by decide)
   have f92 := S0.wr W75 g_ao
   have z93 := Nat.le_trans Z0 (Keep.of_wr W75).1
   have st94 := fun t kt => st74 t (ls75 t kt)
   have st95 : own_K p e below T75 m 41 #[rv ao, iv key, iv r70] [.int r70, .ref ao] B0 := fun t kt => st94 t (by
    refine XS.aloadN X75.here hx rfl (hb hby d6_39) rfl rfl ?_
    refine XS.iloadN X75.here hx rfl (hb hby d6_40) rfl ?_
    exact kt)
   obtain ⟨T96, h96, X96, e96, W96, ls96⟩ := putF X75 hx hZ hown (host := "") (Or.inl (own_w hw 65 rfl)) Via.refl e75 f80 f76 (Or.inl (own_w hw 66 rfl)) (own_w hw 11 rfl) (ty := .int) (by decide) rfl rfl (g := (mkF m 41 #[rv ao, iv key, iv r70] [.int r70, .ref ao])) rfl rfl (hb hby d6_41)
   have N96 := Fr.snoc X96 N75 g_ao
   have f97 := f76.wr W96
   have f98 := f77.other W96 (Or.inr (own_s46_66 hw))
   have f99 := f78.other W96 (Or.inr (own_s29_66 hw))
   have f100 := f79.other W96 (Or.inr (own_s20_66 hw))
   have f101 := f80.same W96
   have f102 := f81.other W96 (Or.inr (own_s22_66 hw))
   have f103 := f82.other W96 (Or.inr (own_s24_66 hw))
   have f104 := f83.other W96 (Or.inr (own_s26_66 hw))
   have f105 := f84.other W96 (Or.inr (own_s33_66 hw))
   have f106 := f85.other W96 (Or.inr (own_s35_66 hw))
   have f107 := f86.other W96 (Ne.symm ne_ao_bk)
   have f108 := f87.other W96 (Ne.symm ne_ao_bl)
   have f109 := f88.other W96 (Ne.symm ne_ao_bc)
   have f110 := f89.other W96 (Ne.symm ne_ao_bp)
   have f111 := f90.other W96 (Ne.symm ne_ao_bq)
   have f112 := f91.wrO W96 f76 (by decide)
   have f113 := f92.wr W96 g_ao
   have z114 := Nat.le_trans z93 (Keep.of_wr W96).1
   have st115 := fun t kt => st95 t (ls96 t kt)
   have st116 : own_K p e below T96 m 45 #[rv ao, iv key, iv r70] [.int r70] B0 := fun t kt => st115 t (by
    refine XS.iloadN X96.here hx rfl (hb hby d6_44) rfl ?_
    exact kt)
   obtain ⟨fs, hr, hrun, hended, hW, hsame⟩ := X96.leave (v := (some (.int r70))) (fun h => by rw [Bd.returns] at h; cases h)
   subst hB0
   refine ⟨_, _, st116 _ ?_, hrun, hended, _, _, rfl, ?_, ⟨_, rfl⟩, hW, hsame.mono (by decide) (by decide)⟩
   ·exact retOut X96 hx Bd.returns rfl (Or.inl ⟨rfl, Or.inl rfl, _, rfl⟩) (hb hby d6_45) hr
   ·show Q_rm_position Z ao key 1 cap K S Ch ct ev h0 n0 _ T96.heap _
    rw [e96]
    exact ⟨_, rfl, hr70, N96, z114, f113, _, ⟨f97, f98, f99, f100, ⟨_, f101⟩, bk, bl, bc, bp, bq, by
     intro x hx
     simp only [List.mem_cons, List.not_mem_nil, or_false] at hx
     rcases hx with rfl | rfl | rfl | rfl | rfl | rfl
     ·exact g_ao
     ·exact g_bk
     ·exact g_bl
     ·exact g_bc
     ·exact g_bp
     ·exact g_bq, by simp [ne_ao_bk, ne_ao_bl, ne_ao_bc, ne_ao_bp, ne_ao_bq, ne_bk_bl, ne_bk_bc, ne_bk_bp, ne_bk_bq, ne_bl_bc, ne_bl_bp, ne_bl_bq, ne_bc_bp, ne_bc_bq, ne_bp_bq], f102, f103, f104, f105, f106, f107, f108, f109, ⟨pf, f110, f112⟩, _, f111⟩⟩
 ·obtain ⟨E_ao, F_bl, F_ct, F_lk, ⟨lp, F_lp⟩, bk, bl, bc, bp, bq, hge, nd, F_ke, F_sl, F_ch, F_pe, F_pc, A_bk, A_bl, A_bc, ⟨pf, A_bp, H_pf⟩, gq, A_bq⟩ := Nn
  have g_ao := hge ao (List.mem_of_getElem? (i := 0) rfl)
  have ne_ao_bk := own_nd nd 0 1 rfl rfl (by decide)
  have ne_ao_bl := own_nd nd 0 2 rfl rfl (by decide)
  have ne_ao_bc := own_nd nd 0 3 rfl rfl (by decide)
  have ne_ao_bp := own_nd nd 0 4 rfl rfl (by decide)
  have ne_ao_bq := own_nd nd 0 5 rfl rfl (by decide)
  have g_bk := hge bk (List.mem_of_getElem? (i := 1) rfl)
  have ne_bk_bl := own_nd nd 1 2 rfl rfl (by decide)
  have ne_bk_bc := own_nd nd 1 3 rfl rfl (by decide)
  have ne_bk_bp := own_nd nd 1 4 rfl rfl (by decide)
  have ne_bk_bq := own_nd nd 1 5 rfl rfl (by decide)
  have g_bl := hge bl (List.mem_of_getElem? (i := 2) rfl)
  have ne_bl_bc := own_nd nd 2 3 rfl rfl (by decide)
  have ne_bl_bp := own_nd nd 2 4 rfl rfl (by decide)
  have ne_bl_bq := own_nd nd 2 5 rfl rfl (by decide)
  have g_bc := hge bc (List.mem_of_getElem? (i := 3) rfl)
  have ne_bc_bp := own_nd nd 3 4 rfl rfl (by decide)
  have ne_bc_bq := own_nd nd 3 5 rfl rfl (by decide)
  have g_bp := hge bp (List.mem_of_getElem? (i := 4) rfl)
  have ne_bp_bq := own_nd nd 4 5 rfl rfl (by decide)
  have g_bq := hge bq (List.mem_of_getElem? (i := 5) rfl)
  have st117 : own_K p e below s₁ m 2 #[rv ao, iv key, .unset] [.ref ao, .int key] B0 := fun t kt => st0 t (by
   refine XS.iloadN X0.here hx rfl (hb hby d6_0) rfl ?_
   refine XS.aloadN X0.here hx rfl (hb hby d6_1) rfl rfl ?_
   exact kt)
  obtain ⟨T118, X118, e118, ls118⟩ := getF X0 hx hZ hown (host := "") (Or.inl (own_w hw 19 rfl)) Via.refl e0 F_lk (g := (mkF m 2 #[rv ao, iv key, .unset] [.ref ao, .int key])) rfl rfl (hb hby d6_2)
  have st119 := fun t kt => st117 t (ls118 t kt)
  have hc120 : ¬ (key = (-1 : Int32)) := hk1
  have st121 : own_K p e below T118 m 17 #[rv ao, iv key, .unset] [.ref ao] B0 := fun t kt => st119 t (by
   refine XS.icmpYes X118.here hx rfl (pc0 := 5) (pc' := 16) rfl (hb hby d6_5) rfl (feq hc120).2 (by decide) (by decide) ?_
   refine XS.aloadN X118.here hx rfl (hb hby d6_16) rfl rfl ?_
   exact kt)
  obtain ⟨T122, X122, e122, ls122⟩ := getF X118 hx hZ hown (host := "") (Or.inl (own_w hw 21 rfl)) Via.refl e118 F_ke (g := (mkF m 17 #[rv ao, iv key, .unset] [.ref ao])) rfl rfl (hb hby d6_17)
  have st123 := fun t kt => st121 t (ls122 t kt)
  have st124 : own_K p e below T122 m 22 #[rv ao, iv key, .unset] [.ref ao, .int 0, .ref bk] B0 := fun t kt => st123 t (by
   refine XS.iconst X122.here hx rfl (hb hby d6_20) ?_
   refine XS.aloadN X122.here hx rfl (hb hby d6_21) rfl rfl ?_
   exact kt)
  obtain ⟨T125, X125, e125, ls125⟩ := getF X122 hx hZ hown (host := "") (Or.inl (own_w hw 45 rfl)) Via.refl e122 F_bl (g := (mkF m 22 #[rv ao, iv key, .unset] [.ref ao, .int 0, .ref bk])) rfl rfl (hb hby d6_22)
  have st126 := fun t kt => st124 t (ls125 t kt)
  have st127 : own_K p e below T125 m 26 #[rv ao, iv key, .unset] [.int key, .int 2, .int 0, .ref bk] B0 := fun t kt => st126 t (by
   refine XS.iloadN X125.here hx rfl (hb hby d6_25) rfl ?_
   show own_At p e below T125 m 26 #[rv ao, iv key, .unset] [.int key, .int (Int32.ofNat 2), .int 0, .ref bk] _
   rw [show (Int32.ofNat 2) = (2 : Int32) from (rfl)]
   exact kt)
  obtain ⟨_, _, ⟨T128, L128, k128, n128⟩, -, X128, ⟨Lc128, hQ128, l128, y128, z128⟩, ls128⟩ := Jvm.LawKit.callS X125 hx (y := (⟨"java/util/Arrays", "binarySearch", "([IIII)I"⟩ : MethodName)) hown (mvT hZ (own_w hw 47 rfl)) (mvT hZ (own_w hw 48 rfl)) (mvT hZ (own_w hw 49 rfl)) (mvT hZ (own_w hw 50 rfl)) (by decide) (backOf (W := 0) (rm_bs_2 l Z a0 hw [] bk key cap K h0 n0 Z0 A_bk hnc hasc) hZ (own_w hw 50 rfl) (own_w hw 49 rfl) (by decide) (by decide)) (g := (mkF m 26 #[rv ao, iv key, .unset] [.int key, .int 2, .int 0, .ref bk])) rfl (by rw [hml]; rfl) (argsL := [.ref bk, .int 0, .int 2, .int key]) (rest := []) (lenOf own_pd4 rfl) rfl (by show 2 * 0 + _ ≤ _; exact Nat.le_of_eq rfl) (hb hby d6_26) (fun _ _ => ⟨rfl, e125, (by decide : 0 + 0 ≤ _), (by decide : 0 + 0 ≤ _)⟩)
  dsimp only [Pt.U, Pt.locs, Pt.cells, Pt.slots] at X128 l128 y128 z128 ls128 hQ128
  subst l128 y128 z128
  obtain ⟨r128, rfl, hr128, Nq128, eq128⟩ := hQ128
  have N128 := Fr.app N0 Nq128
  have st129 := fun t kt => st127 t (ls128 t kt)
  have st130 : own_K p e below T128 m 31 #[rv ao, iv key, iv r128] [.int r128] B0 := fun t kt => st129 t (by
   refine XS.istoreN X128.here hx rfl (hb hby d6_29) rfl (l' := #[rv ao, iv key, iv r128]) rfl ?_
   refine XS.iloadN X128.here hx rfl (hb hby d6_30) rfl ?_
   exact kt)
  by_cases q1 : r128 < (0 : Int32)
  ·have st131 : own_K p e below T128 m 45 #[rv ao, iv key, iv r128] [.int r128] B0 := fun t kt => st130 t (by
    refine XS.ifYes X128.here hx rfl (pc0 := 31) (pc' := 44) rfl (hb hby d6_31) rfl ((if0 _ _).trans (tlt q1).1) (by decide) (by decide) ?_
    refine XS.iloadN X128.here hx rfl (hb hby d6_44) rfl ?_
    exact kt)
   obtain ⟨fs, hr, hrun, hended, hW, hsame⟩ := X128.leave (v := (some (.int r128))) (fun h => by rw [Bd.returns] at h; cases h)
   subst hB0
   refine ⟨_, _, st131 _ ?_, hrun, hended, _, _, rfl, ?_, ⟨_, rfl⟩, hW, hsame.mono (by decide) (by decide)⟩
   ·exact retOut X128 hx Bd.returns rfl (Or.inl ⟨rfl, Or.inl rfl, _, rfl⟩) (hb hby d6_45) hr
   ·show Q_rm_position Z ao key 2 cap K S Ch ct ev h0 n0 _ T128.heap _
    rw [eq128]
    exact ⟨_, rfl, hr128, N128, Z0, S0, _, ⟨E_ao, F_bl, F_ct, F_lk, ⟨_, F_lp⟩, bk, bl, bc, bp, bq, by
     intro x hx
     simp only [List.mem_cons, List.not_mem_nil, or_false] at hx
     rcases hx with rfl | rfl | rfl | rfl | rfl | rfl
     ·exact g_ao
     ·exact g_bk
     ·exact g_bl
     ·exact g_bc
     ·exact g_bp
     ·exact g_bq, by simp [ne_ao_bk, ne_ao_bl, ne_ao_bc, ne_ao_bp, ne_ao_bq, ne_bk_bl, ne_bk_bc, ne_bk_bp, ne_bk_bq, ne_bl_bc, ne_bl_bp, ne_bl_bq, ne_bc_bp, ne_bc_bq, ne_bp_bq], F_ke, F_sl, F_ch, F_pe, F_pc, A_bk, A_bl, A_bc, ⟨pf, A_bp, H_pf⟩, _, A_bq⟩⟩
  ·have st132 : own_K p e below T128 m 36 #[rv ao, iv key, iv r128] [.int key, .ref ao] B0 := fun t kt => st130 t (by
    refine XS.ifNo X128.here hx rfl (hb hby d6_31) rfl ((if0 _ _).trans (flt q1).1) ?_
    refine XS.aloadN X128.here hx rfl (hb hby d6_34) rfl rfl ?_
    refine XS.iloadN X128.here hx rfl (hb hby d6_35) rfl ?_
    exact kt)
   obtain ⟨T133, h133, X133, e133, W133, ls133⟩ := putF X128 hx hZ hown (host := "") (Or.inl (own_w hw 19 rfl)) Via.refl eq128 F_lk E_ao (Or.inl (own_w hw 20 rfl)) (own_w hw 11 rfl) (ty := .int) (by decide) rfl rfl (g := (mkF m 36 #[rv ao, iv key, iv r128] [.int key, .ref ao])) rfl rfl (hb hby d6_36)
   have N133 := Fr.snoc X133 N128 g_ao
   have f134 := E_ao.wr W133
   have f135 := F_bl.other W133 (Or.inr (own_s46_20 hw))
   have f136 := F_ct.other W133 (Or.inr (own_s29_20 hw))
   have f137 := F_lk.same W133
   have f138 := F_lp.other W133 (Or.inr (own_s66_20 hw))
   have f139 := F_ke.other W133 (Or.inr (own_s22_20 hw))
   have f140 := F_sl.other W133 (Or.inr (own_s24_20 hw))
   have f141 := F_ch.other W133 (Or.inr (own_s26_20 hw))
   have f142 := F_pe.other W133 (Or.inr (own_s33_20 hw))
   have f143 := F_pc.other W133 (Or.inr (own_s35_20 hw))
   have f144 := A_bk.other W133 (Ne.symm ne_ao_bk)
   have f145 := A_bl.other W133 (Ne.symm ne_ao_bl)
   have f146 := A_bc.other W133 (Ne.symm ne_ao_bc)
   have f147 := A_bp.other W133 (Ne.symm ne_ao_bp)
   have f148 := A_bq.other W133 (Ne.symm ne_ao_bq)
   have f149 := H_pf.wrO W133 E_ao (by decide)
   have f150 := S0.wr W133 g_ao
   have z151 := Nat.le_trans Z0 (Keep.of_wr W133).1
   have st152 := fun t kt => st132 t (ls133 t kt)
   have st153 : own_K p e below T133 m 41 #[rv ao, iv key, iv r128] [.int r128, .ref ao] B0 := fun t kt => st152 t (by
    refine XS.aloadN X133.here hx rfl (hb hby d6_39) rfl rfl ?_
    refine XS.iloadN X133.here hx rfl (hb hby d6_40) rfl ?_
    exact kt)
   obtain ⟨T154, h154, X154, e154, W154, ls154⟩ := putF X133 hx hZ hown (host := "") (Or.inl (own_w hw 65 rfl)) Via.refl e133 f138 f134 (Or.inl (own_w hw 66 rfl)) (own_w hw 11 rfl) (ty := .int) (by decide) rfl rfl (g := (mkF m 41 #[rv ao, iv key, iv r128] [.int r128, .ref ao])) rfl rfl (hb hby d6_41)
   have N154 := Fr.snoc X154 N133 g_ao
   have f155 := f134.wr W154
   have f156 := f135.other W154 (Or.inr (own_s46_66 hw))
   have f157 := f136.other W154 (Or.inr (own_s29_66 hw))
   have f158 := f137.other W154 (Or.inr (own_s20_66 hw))
   have f159 := f138.same W154
   have f160 := f139.other W154 (Or.inr (own_s22_66 hw))
   have f161 := f140.other W154 (Or.inr (own_s24_66 hw))
   have f162 := f141.other W154 (Or.inr (own_s26_66 hw))
   have f163 := f142.other W154 (Or.inr (own_s33_66 hw))
   have f164 := f143.other W154 (Or.inr (own_s35_66 hw))
   have f165 := f144.other W154 (Ne.symm ne_ao_bk)
   have f166 := f145.other W154 (Ne.symm ne_ao_bl)
   have f167 := f146.other W154 (Ne.symm ne_ao_bc)
   have f168 := f147.other W154 (Ne.symm ne_ao_bp)
   have f169 := f148.other W154 (Ne.symm ne_ao_bq)
   have f170 := f149.wrO W154 f134 (by decide)
   have f171 := f150.wr W154 g_ao
   have z172 := Nat.le_trans z151 (Keep.of_wr W154).1
   have st173 := fun t kt => st153 t (ls154 t kt)
   have st174 : own_K p e below T154 m 45 #[rv ao, iv key, iv r128] [.int r128] B0 := fun t kt => st173 t (by
    refine XS.iloadN X154.here hx rfl (hb hby d6_44) rfl ?_
    exact kt)
   obtain ⟨fs, hr, hrun, hended, hW, hsame⟩ := X154.leave (v := (some (.int r128))) (fun h => by rw [Bd.returns] at h; cases h)
   subst hB0
   refine ⟨_, _, st174 _ ?_, hrun, hended, _, _, rfl, ?_, ⟨_, rfl⟩, hW, hsame.mono (by decide) (by decide)⟩
   ·exact retOut X154 hx Bd.returns rfl (Or.inl ⟨rfl, Or.inl rfl, _, rfl⟩) (hb hby d6_45) hr
   ·show Q_rm_position Z ao key 2 cap K S Ch ct ev h0 n0 _ T154.heap _
    rw [e154]
    exact ⟨_, rfl, hr128, N154, z172, f171, _, ⟨f155, f156, f157, f158, ⟨_, f159⟩, bk, bl, bc, bp, bq, by
     intro x hx
     simp only [List.mem_cons, List.not_mem_nil, or_false] at hx
     rcases hx with rfl | rfl | rfl | rfl | rfl | rfl
     ·exact g_ao
     ·exact g_bk
     ·exact g_bl
     ·exact g_bc
     ·exact g_bp
     ·exact g_bq, by simp [ne_ao_bk, ne_ao_bl, ne_ao_bc, ne_ao_bp, ne_ao_bq, ne_bk_bl, ne_bk_bc, ne_bk_bp, ne_bk_bq, ne_bl_bc, ne_bl_bp, ne_bl_bq, ne_bc_bp, ne_bc_bq, ne_bp_bq], f160, f161, f162, f163, f164, f165, f166, f167, ⟨pf, f168, f170⟩, _, f169⟩⟩
def Q_rm_grow (Z : State) (ao : Addr) (uw : Int32) (uc : Int32) (nb : Nat) (cap : Nat) (K : Nat → Int32) (S : Nat → Nat) (Ch : Nat → Int32) (ct : Int32) (ev : Nat) (h0 : Heap) (n0 : Nat) (v : Option Value) (h : Heap) (L : List Loc) : Prop := v = none ∧ Fr n0 L ∧ n0 ≤ h.size ∧ own_Sm (fun x => n0 ≤ x) h0 h ∧ ∃ (nb' cap' : Nat) (K' : Nat → Int32) (S' : Nat → Nat) (Ch' : Nat → Int32) (ct' lk' : Int32), nb' ≤ cap' ∧ cap' ≤ 4 ∧ own_N Z h n0 ao nb' cap' K' S' Ch' ct' lk' ev ∧ own_Grow nb K S Ch (own_key uw) (own_pl uw) uc ct nb' cap' K' S' Ch' ct'
set_option maxRecDepth 65536 in
set_option maxHeartbeats 40000000 in
theorem rm_grow (l : Launch) (Z : State) (a0 : Array Value) (hw : ∀ d ∈ tables_1, d.before a0 Z = true) (ws : List Jvm.Cond) (ao : Addr) (uw : Int32) (uc : Int32) (nb : Nat) (cap : Nat) (K : Nat → Int32) (S : Nat → Nat) (Ch : Nat → Int32) (ct : Int32) (ev : Nat) (h0 : Heap) (n0 : Nat) (Z0 : n0 ≤ h0.size) (Nn : own_N Z h0 n0 ao nb cap K S Ch ct (-1) ev) (hnb : nb = 0 ∨ nb = 1 ∨ nb = 2) (hnc : nb ≤ cap) (hasc : nb = 2 → K 0 < K 1) (hc1 : 1 ≤ cap) (hc2 : cap ≤ 2) (hev : ev ≤ 3) (hS : ∀ q, q < nb → S q < nb) (hz : ∀ x, 64 * nb ≤ x → x < 64 * cap → Ch x = 0) (huw : 0 ≤ uw.toInt) :
  MetFree l (⟨"com/example/saturation/saturation/OpenNode", "grow", "(II)V"⟩ : MethodName) (head1 (Jvm.Cond.code (⟨"com/example/saturation/saturation/OpenNode", "grow", "(II)V"⟩ : MethodName) prog_38_method_3_code 10 none :: ws) ({ frames := 4, cells := 6, slots := 276, locals := 76 } : Room)) (fun a U => a = #[.ref ao, .int uw, .int uc] ∧ Z.Warmed39 U.vm ∧ U.heap = h0) (fun _ _ _ _ _ => True) (fun _ U o U' => ∃ v L, o = .returned v ∧ Q_rm_grow Z ao uw uc nb cap K S Ch ct ev h0 n0 v U'.heap L ∧ FrameEnd U o U' L ({ frames := 4, cells := 6, slots := 276, locals := 76 } : Room).cells ({ frames := 4, cells := 6, slots := 276, locals := 76 } : Room).slots) := by
 refine MetFree.of_bodySF (plainFor_of_name own_pn1) hisR ?_
 intro p e s m args below meth c s₁ Bd hml0 hP hK
 obtain ⟨rfl, hZ, hh⟩ := hP
 have hx := Bd.exec
 have hby := Bd.bytes
 have hml : c.maxLocals = 10 := hml0
 have hown : s.vm.findClass "com/example/saturation/saturation/OpenNode" = some m.cls := findClass_of_methodNamed Bd.named
 have hnm := (name_of_methodNamed Bd.named Bd.method).1
 have X0 : Stand p l e ({ frames := 4, cells := 6, slots := 276, locals := 76 } : Room) s m #[.ref ao, .int uw, .int uc] below meth c s₁ [] 0 0 := Stand.of_body Bd
 have e0 : s₁.heap = h0 := by rw [← hh, Bd.state]; rfl
 have N0 := Fr.nil n0
 obtain ⟨B0, hB0⟩ : ∃ B, B = (s₁.setTop (entryFrame m #[.ref ao, .int uw, .int uc] 10)) := ⟨_, rfl⟩
 have st0 : own_K p e below s₁ m 0 #[rv ao, iv uw, iv uc, .unset, .unset, .unset, .unset, .unset, .unset, .unset] [] B0 := fun t kk0 => hB0 ▸ castTop (own_ef5_RII m ao uw uc) kk0
 obtain ⟨key, h_key⟩ : ∃ z : Int32, z = ((uw.toUInt32 >>> ((6 : Int32) &&& 31).toUInt32).toInt32) := ⟨_, rfl⟩
 have hkey := own_key_nn uw huw
 rw [own_key_def, ← h_key] at hkey
 have hke : own_key uw = key := h_key.symm
 have st1 : own_K p e below s₁ m 7 #[rv ao, iv uw, iv uc, iv key, .unset, .unset, .unset, .unset, .unset, .unset] [.int key, .ref ao] B0 := fun t kt => st0 t (by
  refine XS.iloadN X0.here hx rfl (hb hby d5_0) rfl ?_
  refine XS.bipush X0.here hx rfl (hb hby d5_1) ?_
  refine XS.iushr X0.here hx rfl (hb hby d5_3) rfl ?_
  show own_At p e below s₁ m 4 #[rv ao, iv uw, iv uc, .unset, .unset, .unset, .unset, .unset, .unset, .unset] [(.int ((uw.toUInt32 >>> ((6 : Int32) &&& 31).toUInt32).toInt32))] _
  rw [← h_key]
  refine XS.istoreN X0.here hx rfl (hb hby d5_4) rfl (l' := #[rv ao, iv uw, iv uc, iv key, .unset, .unset, .unset, .unset, .unset, .unset]) rfl ?_
  refine XS.aloadN X0.here hx rfl (hb hby d5_5) rfl rfl ?_
  refine XS.iloadN X0.here hx rfl (hb hby d5_6) rfl ?_
  exact kt)
 obtain ⟨cq2, q2, q2'⟩ := (Nn.1).cell
 obtain ⟨_, _, ⟨T2, L2, k2, n2⟩, -, X2, ⟨Lc2, hQ2, l2, y2, z2⟩, ls2⟩ := X0.privateBack hx (y := (⟨"com/example/saturation/saturation/OpenNode", "position", "(I)I"⟩ : MethodName)) hown (mvT hZ (own_w hw 41 rfl)) (mvT hZ (own_w hw 42 rfl)) (Jvm.Kit.selects_private (by decide) (mvT hZ (own_w hw 11 rfl)) (mvP hZ (own_w hw 43 rfl)) (mvT hZ (own_w hw 42 rfl))) (Cond.privateMethod_at (mvP hZ (own_w hw 43 rfl) (args := #[]))) (mvT hZ (own_w hw 44 rfl)) (by decide) (backOf (W := 0) (rm_position l Z a0 hw [] ao key nb cap K S Ch ct ev h0 n0 Z0 Nn hnb hnc hasc hkey) hZ (own_w hw 44 rfl) (own_w hw 12 rfl) (by decide) (by decide)) (g := (mkF m 7 #[rv ao, iv uw, iv uc, iv key, .unset, .unset, .unset, .unset, .unset, .unset] [.int key, .ref ao])) rfl (by rw [hml]; rfl) (Steps.refl _) (a := ao) (by rw [e0]; exact q2) q2' (argsL := [.int key]) (rest := []) (lenOf own_pd5 rfl) rfl (by show 2 * 0 + _ ≤ _; exact Nat.le_of_eq rfl) (hb hby d5_7) (fun _ _ => ⟨rfl, e0, (by decide : 0 + 0 ≤ _), (by decide : 0 + 0 ≤ _)⟩)
 dsimp only [Pt.U, Pt.locs, Pt.cells, Pt.slots] at X2 l2 y2 z2 ls2 hQ2
 subst l2 y2 z2
 obtain ⟨r2, rfl, hr2, Nq2, Zq2, Sm2, lk2, Nn2⟩ := hQ2
 have N2 := Fr.app N0 Nq2
 have st3 : own_K p e below T2 m 10 #[rv ao, iv uw, iv uc, iv key, .unset, .unset, .unset, .unset, .unset, .unset] [.int r2] B0 := fun t kt => st1 t (ls2.trans kt)
 have Eq2 := Nn2.1
 have st4 : own_K p e below T2 m 14 #[rv ao, iv uw, iv uc, iv key, iv r2, .unset, .unset, .unset, .unset, .unset] [.int r2] B0 := fun t kt => st3 t (by
  refine XS.istore X2.here hx rfl (hb hby d5_10) rfl (l' := #[rv ao, iv uw, iv uc, iv key, iv r2, .unset, .unset, .unset, .unset, .unset]) rfl ?_
  refine XS.iload X2.here hx rfl (hb hby d5_12) rfl ?_
  exact kt)
 rcases hr2 with ⟨qp, hq, hrq, hKq⟩ | ⟨qp, hq, hrq, hlo, hhi⟩
 ·have qq := own_nat32 (show qp < 2 ^ 31 by omega)
  have hc5 : ¬ ((Int32.ofNat qp) < (0 : Int32)) := qq.2
  obtain ⟨E_ao1, F_bl1, F_ct1, F_lk1, ⟨lp1, F_lp1⟩, bk1, bl1, bc1, bp1, bq1, hge1, nd1, F_ke1, F_sl1, F_ch1, F_pe1, F_pc1, A_bk1, A_bl1, A_bc1, ⟨pf1, A_bp1, H_pf1⟩, gq1, A_bq1⟩ := Nn2
  have g_ao := hge1 ao (List.mem_of_getElem? (i := 0) rfl)
  have ne_ao_bk1 := own_nd nd1 0 1 rfl rfl (by decide)
  have ne_ao_bl1 := own_nd nd1 0 2 rfl rfl (by decide)
  have ne_ao_bc1 := own_nd nd1 0 3 rfl rfl (by decide)
  have ne_ao_bp1 := own_nd nd1 0 4 rfl rfl (by decide)
  have ne_ao_bq1 := own_nd nd1 0 5 rfl rfl (by decide)
  have g_bk1 := hge1 bk1 (List.mem_of_getElem? (i := 1) rfl)
  have ne_bk1_bl1 := own_nd nd1 1 2 rfl rfl (by decide)
  have ne_bk1_bc1 := own_nd nd1 1 3 rfl rfl (by decide)
  have ne_bk1_bp1 := own_nd nd1 1 4 rfl rfl (by decide)
  have ne_bk1_bq1 := own_nd nd1 1 5 rfl rfl (by decide)
  have g_bl1 := hge1 bl1 (List.mem_of_getElem? (i := 2) rfl)
  have ne_bl1_bc1 := own_nd nd1 2 3 rfl rfl (by decide)
  have ne_bl1_bp1 := own_nd nd1 2 4 rfl rfl (by decide)
  have ne_bl1_bq1 := own_nd nd1 2 5 rfl rfl (by decide)
  have g_bc1 := hge1 bc1 (List.mem_of_getElem? (i := 3) rfl)
  have ne_bc1_bp1 := own_nd nd1 3 4 rfl rfl (by decide)
  have ne_bc1_bq1 := own_nd nd1 3 5 rfl rfl (by decide)
  have g_bp1 := hge1 bp1 (List.mem_of_getElem? (i := 4) rfl)
  have ne_bp1_bq1 := own_nd nd1 4 5 rfl rfl (by decide)
  have g_bq1 := hge1 bq1 (List.mem_of_getElem? (i := 5) rfl)
  have hsp : S qp < cap := Nat.lt_of_lt_of_le (hS qp hq) hnc
  have pl2 := own_pl_lt uw
  have h41 : cap ≤ 4 := by omega
  have pp := own_nat32 (show qp < 2 ^ 31 by omega)
  have xx := own_nat32 (show 64 * S qp + own_pl uw < 2 ^ 31 by omega)
  have hpc : qp < cap := by omega
  have st6 : own_K p e below T2 m 30 #[rv ao, iv uw, iv uc, iv key, iv (Int32.ofNat qp), .unset, .unset, .unset, .unset, .unset] [.ref ao] B0 := fun t kt => st4 t (by
   show own_At p e below T2 m 14 #[rv ao, iv uw, iv uc, iv key, iv r2, .unset, .unset, .unset, .unset, .unset] [.int r2] _
   rw [show r2 = (Int32.ofNat qp) from (hrq)]
   refine XS.ifYes X2.here hx rfl (pc0 := 14) (pc' := 29) rfl (hb hby d5_14) rfl ((if0 _ _).trans (flt hc5).2.1) (by decide) (by decide) ?_
   refine XS.aloadN X2.here hx rfl (hb hby d5_29) rfl rfl ?_
   exact kt)
  obtain ⟨T7, X7, e7, ls7⟩ := getF X2 hx hZ hown (host := "") (Or.inl (own_w hw 23 rfl)) Via.refl rfl F_sl1 (g := (mkF m 30 #[rv ao, iv uw, iv uc, iv key, iv (Int32.ofNat qp), .unset, .unset, .unset, .unset, .unset] [.ref ao])) rfl rfl (hb hby d5_30)
  have st8 := fun t kt => st6 t (ls7 t kt)
  have st9 : own_K p e below T7 m 35 #[rv ao, iv uw, iv uc, iv key, iv (Int32.ofNat qp), .unset, .unset, .unset, .unset, .unset] [.int (Int32.ofNat qp), .ref bl1] B0 := fun t kt => st8 t (by
   refine XS.iload X7.here hx rfl (hb hby d5_33) rfl ?_
   exact kt)
  have ls10 := own_iaload X7 hx hZ e7 A_bl1 (j := (Int32.ofNat qp)) (i := qp) (pp.2) (pp.1) (hpc) (v := (.int (Int32.ofNat (S qp)))) (rfl) (g := (mkF m 35 #[rv ao, iv uw, iv uc, iv key, iv (Int32.ofNat qp), .unset, .unset, .unset, .unset, .unset] [.int (Int32.ofNat qp), .ref bl1])) rfl rfl (hb hby d5_35)
  have st11 := fun t kt => st9 t (ls10 t kt)
  have st12 : own_K p e below T7 m 51 #[rv ao, iv uw, iv uc, iv key, iv (Int32.ofNat qp), iv (Int32.ofNat (S qp)), iv (Int32.ofNat (64 * S qp + own_pl uw)), .unset, .unset, .unset] [.ref ao] B0 := fun t kt => st11 t (by
   refine XS.istore X7.here hx rfl (hb hby d5_36) rfl (l' := #[rv ao, iv uw, iv uc, iv key, iv (Int32.ofNat qp), iv (Int32.ofNat (S qp)), .unset, .unset, .unset, .unset]) rfl ?_
   refine XS.iload X7.here hx rfl (hb hby d5_38) rfl ?_
   refine XS.bipush X7.here hx rfl (hb hby d5_40) ?_
   refine XS.ishl X7.here hx rfl (hb hby d5_42) rfl ?_
   refine XS.iloadN X7.here hx rfl (hb hby d5_43) rfl ?_
   refine XS.bipush X7.here hx rfl (hb hby d5_44) ?_
   refine XS.iand X7.here hx rfl (hb hby d5_46) rfl ?_
   refine XS.ior X7.here hx rfl (hb hby d5_47) rfl ?_
   show own_At p e below T7 m 48 #[rv ao, iv uw, iv uc, iv key, iv (Int32.ofNat qp), iv (Int32.ofNat (S qp)), .unset, .unset, .unset, .unset] [(.int (((Int32.ofNat (S qp)) <<< ((6 : Int32) &&& 31)) ||| (uw &&& (63 : Int32))))] _
   rw [show (((Int32.ofNat (S qp)) <<< ((6 : Int32) &&& 31)) ||| (uw &&& (63 : Int32))) = (Int32.ofNat (64 * S qp + own_pl uw)) from (own_idx6 (S qp) uw (by omega))]
   refine XS.istore X7.here hx rfl (hb hby d5_48) rfl (l' := #[rv ao, iv uw, iv uc, iv key, iv (Int32.ofNat qp), iv (Int32.ofNat (S qp)), iv (Int32.ofNat (64 * S qp + own_pl uw)), .unset, .unset, .unset]) rfl ?_
   refine XS.aloadN X7.here hx rfl (hb hby d5_50) rfl rfl ?_
   exact kt)
  obtain ⟨T13, X13, e13, ls13⟩ := getF X7 hx hZ hown (host := "") (Or.inl (own_w hw 25 rfl)) Via.refl e7 F_ch1 (g := (mkF m 51 #[rv ao, iv uw, iv uc, iv key, iv (Int32.ofNat qp), iv (Int32.ofNat (S qp)), iv (Int32.ofNat (64 * S qp + own_pl uw)), .unset, .unset, .unset] [.ref ao])) rfl rfl (hb hby d5_51)
  have st14 := fun t kt => st12 t (ls13 t kt)
  have st15 : own_K p e below T13 m 56 #[rv ao, iv uw, iv uc, iv key, iv (Int32.ofNat qp), iv (Int32.ofNat (S qp)), iv (Int32.ofNat (64 * S qp + own_pl uw)), .unset, .unset, .unset] [(.int (Int32.ofNat (64 * S qp + own_pl uw))), .ref bc1] B0 := fun t kt => st14 t (by
   refine XS.iload X13.here hx rfl (hb hby d5_54) rfl ?_
   exact kt)
  have ls16 := own_iaload X13 hx hZ e13 A_bc1 (j := (Int32.ofNat (64 * S qp + own_pl uw))) (i := (64 * S qp + own_pl uw)) (xx.2) (xx.1) (by omega) (v := (.int (Ch (64 * S qp + own_pl uw)))) (rfl) (g := (mkF m 56 #[rv ao, iv uw, iv uc, iv key, iv (Int32.ofNat qp), iv (Int32.ofNat (S qp)), iv (Int32.ofNat (64 * S qp + own_pl uw)), .unset, .unset, .unset] [(.int (Int32.ofNat (64 * S qp + own_pl uw))), .ref bc1])) rfl rfl (hb hby d5_56)
  have st17 := fun t kt => st15 t (ls16 t kt)
  by_cases q2 : (Ch (64 * S qp + own_pl uw)) = (0 : Int32)
  ·have st18 : own_K p e below T13 m 62 #[rv ao, iv uw, iv uc, iv key, iv (Int32.ofNat qp), iv (Int32.ofNat (S qp)), iv (Int32.ofNat (64 * S qp + own_pl uw)), .unset, .unset, .unset] [.ref ao, .ref ao] B0 := fun t kt => st17 t (by
    refine XS.ifNo X13.here hx rfl (hb hby d5_57) rfl ((if0 _ _).trans (teq q2).2) ?_
    refine XS.aloadN X13.here hx rfl (hb hby d5_60) rfl rfl ?_
    refine XS.dup X13.here hx rfl (hb hby d5_61) rfl rfl ?_
    exact kt)
   obtain ⟨T19, X19, e19, ls19⟩ := getF X13 hx hZ hown (host := "") (Or.inl (own_w hw 28 rfl)) Via.refl e13 F_ct1 (g := (mkF m 62 #[rv ao, iv uw, iv uc, iv key, iv (Int32.ofNat qp), iv (Int32.ofNat (S qp)), iv (Int32.ofNat (64 * S qp + own_pl uw)), .unset, .unset, .unset] [.ref ao, .ref ao])) rfl rfl (hb hby d5_62)
   have st20 := fun t kt => st18 t (ls19 t kt)
   have st21 : own_K p e below T19 m 67 #[rv ao, iv uw, iv uc, iv key, iv (Int32.ofNat qp), iv (Int32.ofNat (S qp)), iv (Int32.ofNat (64 * S qp + own_pl uw)), .unset, .unset, .unset] [(.int (ct + (1 : Int32))), .ref ao] B0 := fun t kt => st20 t (by
    refine XS.iconst X19.here hx rfl (hb hby d5_65) ?_
    refine XS.iadd X19.here hx rfl (hb hby d5_66) rfl ?_
    exact kt)
   obtain ⟨T22, h22, X22, e22, W22, ls22⟩ := putF X19 hx hZ hown (host := "") (Or.inl (own_w hw 28 rfl)) Via.refl e19 F_ct1 E_ao1 (Or.inl (own_w hw 29 rfl)) (own_w hw 11 rfl) (ty := .int) (by decide) rfl rfl (g := (mkF m 67 #[rv ao, iv uw, iv uc, iv key, iv (Int32.ofNat qp), iv (Int32.ofNat (S qp)), iv (Int32.ofNat (64 * S qp + own_pl uw)), .unset, .unset, .unset] [(.int (ct + (1 : Int32))), .ref ao])) rfl rfl (hb hby d5_67)
   have N22 := Fr.snoc X22 N2 g_ao
   have f23 := E_ao1.wr W22
   have f24 := F_bl1.other W22 (Or.inr (own_s46_29 hw))
   have f25 := F_ct1.same W22
   have f26 := F_lk1.other W22 (Or.inr (own_s20_29 hw))
   have f27 := F_lp1.other W22 (Or.inr (own_s66_29 hw))
   have f28 := F_ke1.other W22 (Or.inr (own_s22_29 hw))
   have f29 := F_sl1.other W22 (Or.inr (own_s24_29 hw))
   have f30 := F_ch1.other W22 (Or.inr (own_s26_29 hw))
   have f31 := F_pe1.other W22 (Or.inr (own_s33_29 hw))
   have f32 := F_pc1.other W22 (Or.inr (own_s35_29 hw))
   have f33 := A_bk1.other W22 (Ne.symm ne_ao_bk1)
   have f34 := A_bl1.other W22 (Ne.symm ne_ao_bl1)
   have f35 := A_bc1.other W22 (Ne.symm ne_ao_bc1)
   have f36 := A_bp1.other W22 (Ne.symm ne_ao_bp1)
   have f37 := A_bq1.other W22 (Ne.symm ne_ao_bq1)
   have f38 := H_pf1.wrO W22 E_ao1 (by decide)
   have f39 := Sm2.wr W22 g_ao
   have z40 := Nat.le_trans Zq2 (Keep.of_wr W22).1
   have st41 := fun t kt => st21 t (ls22 t kt)
   have st42 : own_K p e below T22 m 71 #[rv ao, iv uw, iv uc, iv key, iv (Int32.ofNat qp), iv (Int32.ofNat (S qp)), iv (Int32.ofNat (64 * S qp + own_pl uw)), .unset, .unset, .unset] [.ref ao] B0 := fun t kt => st41 t (by
    refine XS.aloadN X22.here hx rfl (hb hby d5_70) rfl rfl ?_
    exact kt)
   obtain ⟨T43, X43, e43, ls43⟩ := getF X22 hx hZ hown (host := "") (Or.inl (own_w hw 25 rfl)) Via.refl e22 f30 (g := (mkF m 71 #[rv ao, iv uw, iv uc, iv key, iv (Int32.ofNat qp), iv (Int32.ofNat (S qp)), iv (Int32.ofNat (64 * S qp + own_pl uw)), .unset, .unset, .unset] [.ref ao])) rfl rfl (hb hby d5_71)
   have st44 := fun t kt => st42 t (ls43 t kt)
   have st45 : own_K p e below T43 m 77 #[rv ao, iv uw, iv uc, iv key, iv (Int32.ofNat qp), iv (Int32.ofNat (S qp)), iv (Int32.ofNat (64 * S qp + own_pl uw)), .unset, .unset, .unset] [.int uc, (.int (Int32.ofNat (64 * S qp + own_pl uw))), .ref bc1] B0 := fun t kt => st44 t (by
    refine XS.iload X43.here hx rfl (hb hby d5_74) rfl ?_
    refine XS.iloadN X43.here hx rfl (hb hby d5_76) rfl ?_
    exact kt)
   obtain ⟨T46, h46, X46, e46, W46, B46, ls46⟩ := own_iastore X43 hx hZ e43 f35 (j := (Int32.ofNat (64 * S qp + own_pl uw))) (i := (64 * S qp + own_pl uw)) (xx.2) (xx.1) (by omega) (g := (mkF m 77 #[rv ao, iv uw, iv uc, iv key, iv (Int32.ofNat qp), iv (Int32.ofNat (S qp)), iv (Int32.ofNat (64 * S qp + own_pl uw)), .unset, .unset, .unset] [.int uc, (.int (Int32.ofNat (64 * S qp + own_pl uw))), .ref bc1])) rfl rfl (hb hby d5_77)
   have N46 := Fr.snoc X46 N22 g_bc1
   have f47 := f23.wr W46
   have f48 := f24.other W46 (Or.inl ne_ao_bc1)
   have f49 := f25.other W46 (Or.inl ne_ao_bc1)
   have f50 := f26.other W46 (Or.inl ne_ao_bc1)
   have f51 := f27.other W46 (Or.inl ne_ao_bc1)
   have f52 := f28.other W46 (Or.inl ne_ao_bc1)
   have f53 := f29.other W46 (Or.inl ne_ao_bc1)
   have f54 := f30.other W46 (Or.inl ne_ao_bc1)
   have f55 := f31.other W46 (Or.inl ne_ao_bc1)
   have f56 := f32.other W46 (Or.inl ne_ao_bc1)
   have f57 := f33.other W46 ne_bk1_bc1
   have f58 := f34.other W46 ne_bl1_bc1
   have f59 := f36.other W46 (Ne.symm ne_bc1_bp1)
   have f60 := f37.other W46 (Ne.symm ne_bc1_bq1)
   have f61 := f38.wrA W46 f35 (by decide)
   have f62 := f39.wr W46 g_bc1
   have z63 := Nat.le_trans z40 (Keep.of_wr W46).1
   have f64 := B46.congr (g := (fun q => .int ((fun q => if q = (64 * S qp + own_pl uw) then uc else Ch q) q))) (fun q hq => (apply_ite Value.int _ _ _).symm)
   have st65 := fun t kt => st45 t (ls46 t kt)
   obtain ⟨bit, h_bit⟩ : ∃ z : Int64, z = ((1 : Int64) <<< ((uw &&& (63 : Int32)) &&& 0x3f).toInt64) := ⟨_, rfl⟩
   have st66 : own_K p e below T46 m 89 #[rv ao, iv uw, iv uc, iv key, iv (Int32.ofNat qp), iv (Int32.ofNat (S qp)), iv (Int32.ofNat (64 * S qp + own_pl uw)), .val (.long bit), .second, iv (Int32.ofNat 0)] [] B0 := fun t kt => st65 t (by
    refine XS.lconst X46.here hx rfl (hb hby d5_78) ?_
    refine XS.iloadN X46.here hx rfl (hb hby d5_79) rfl ?_
    refine XS.bipush X46.here hx rfl (hb hby d5_80) ?_
    refine XS.iand X46.here hx rfl (hb hby d5_82) rfl ?_
    refine XS.lshl X46.here hx rfl (hb hby d5_83) rfl ?_
    show own_At p e below T46 m 84 #[rv ao, iv uw, iv uc, iv key, iv (Int32.ofNat qp), iv (Int32.ofNat (S qp)), iv (Int32.ofNat (64 * S qp + own_pl uw)), .unset, .unset, .unset] [(.long ((1 : Int64) <<< ((uw &&& (63 : Int32)) &&& 0x3f).toInt64))] _
    rw [← h_bit]
    refine XS.lstore X46.here hx rfl (hb hby d5_84) rfl (l' := #[rv ao, iv uw, iv uc, iv key, iv (Int32.ofNat qp), iv (Int32.ofNat (S qp)), iv (Int32.ofNat (64 * S qp + own_pl uw)), .val (.long bit), .second, .unset]) rfl ?_
    refine XS.iconst X46.here hx rfl (hb hby d5_86) ?_
    refine XS.istore X46.here hx rfl (hb hby d5_87) rfl (l' := #[rv ao, iv uw, iv uc, iv key, iv (Int32.ofNat qp), iv (Int32.ofNat (S qp)), iv (Int32.ofNat (64 * S qp + own_pl uw)), .val (.long bit), .second, iv 0]) rfl ?_
    show own_At p e below T46 m 89 #[rv ao, iv uw, iv uc, iv key, iv (Int32.ofNat qp), iv (Int32.ofNat (S qp)), iv (Int32.ofNat (64 * S qp + own_pl uw)), .val (.long bit), .second, iv 0] [] _
    rw [show (0 : Int32) = (Int32.ofNat 0) from (rfl)]
    exact kt)
   obtain ⟨T67, L67, h67, X67, e67, N67, Z67, ⟨Sm67, E67, Fp67, Fq67, Ab67, Hp67, gg67, Aq67⟩, ls67⟩ := own_loopD ev cap (S qp) ao bp1 bq1 pf1 uw uc key (Int32.ofNat qp) (Int32.ofNat (64 * S qp + own_pl uw)) bit 0 0 hx hZ hw hby hml hown hev hsp h41 ne_ao_bq1 ne_bp1_bq1 ne_ao_bp1 g_bq1 ev 0 (by omega) _ _ _ X46 e46 N46 z63 ⟨f47, f55, f56, f59, f61, _, f60⟩
   have np_bk1 : ¬ (bk1 = bq1 ∨ ∃ q, q < ev ∧ bk1 = pf1 q) := fun z => z.elim ne_bk1_bq1 fun ⟨q, hq, e⟩ => by
    obtain ⟨fz, az⟩ := (f61 q hq).2.2
    exact own_ty f57 az (by decide) e
   have np_bl1 : ¬ (bl1 = bq1 ∨ ∃ q, q < ev ∧ bl1 = pf1 q) := fun z => z.elim ne_bl1_bq1 fun ⟨q, hq, e⟩ => by
    obtain ⟨fz, az⟩ := (f61 q hq).2.2
    exact own_ty f58 az (by decide) e
   have np_bc1 : ¬ (bc1 = bq1 ∨ ∃ q, q < ev ∧ bc1 = pf1 q) := fun z => z.elim ne_bc1_bq1 fun ⟨q, hq, e⟩ => by
    obtain ⟨fz, az⟩ := (f61 q hq).2.2
    exact own_ty f64 az (by decide) e
   have np_ao : ¬ (ao = bq1 ∨ ∃ q, q < ev ∧ ao = pf1 q) := fun z => z.elim ne_ao_bq1 fun ⟨q, hq, e⟩ => ne_exa f47 (f61 q hq).2.1 (by decide) e
   have f68 := own_ExaSm f47 Sm67 (np_ao)
   have f69 := own_FldSm f48 Sm67 (np_ao)
   have f70 := own_FldSm f49 Sm67 (np_ao)
   have f71 := own_FldSm f50 Sm67 (np_ao)
   have f72 := own_FldSm f51 Sm67 (np_ao)
   have f73 := own_FldSm f52 Sm67 (np_ao)
   have f74 := own_FldSm f53 Sm67 (np_ao)
   have f75 := own_FldSm f54 Sm67 (np_ao)
   have f76 := own_FldSm f55 Sm67 (np_ao)
   have f77 := own_FldSm f56 Sm67 (np_ao)
   have f78 := f57.sm Sm67 (np_bk1)
   have f79 := f58.sm Sm67 (np_bl1)
   have f80 := f62.trans (own_Sm.mono Sm67 (fun x hx => hx.elim (fun e => e ▸ g_bq1) fun ⟨q, hq, e⟩ => e ▸ (f61 q hq).1))
   have f81 := f64.sm Sm67 (np_bc1)
   have st82 := fun t kt => st66 t (ls67 t kt)
   obtain ⟨fs, hr, hrun, hended, hW, hsame⟩ := X67.leave (v := none) (fun _ => rfl)
   subst hB0
   refine ⟨_, _, st82 _ ?_, hrun, hended, _, _, rfl, ?_, ⟨_, rfl⟩, hW, hsame.mono (by decide) (by decide)⟩
   ·exact X67.returnOut hx Bd.returns (hb hby d5_149) hr
   ·show Q_rm_grow Z ao uw uc nb cap K S Ch ct ev h0 n0 _ T67.heap _
    rw [e67]
    exact ⟨rfl, N67, Z67, f80, nb, cap, _, _, _, _, _, by omega, h41, ⟨f68, f69, f70, f71, ⟨_, f72⟩, bk1, bl1, bc1, bp1, bq1, by
     intro x hx
     simp only [List.mem_cons, List.not_mem_nil, or_false] at hx
     rcases hx with rfl | rfl | rfl | rfl | rfl | rfl
     ·exact g_ao
     ·exact g_bk1
     ·exact g_bl1
     ·exact g_bc1
     ·exact g_bp1
     ·exact g_bq1, by simp [ne_ao_bk1, ne_ao_bl1, ne_ao_bc1, ne_ao_bp1, ne_ao_bq1, ne_bk1_bl1, ne_bk1_bc1, ne_bk1_bp1, ne_bk1_bq1, ne_bl1_bc1, ne_bl1_bp1, ne_bl1_bq1, ne_bc1_bp1, ne_bc1_bq1, ne_bp1_bq1], f73, f74, f75, f76, f77, f78, f79, f81, ⟨pf1, Ab67, Hp67⟩, _, Aq67⟩, Or.inl ⟨qp, hq, hKq.trans hke.symm, rfl, rfl, rfl, rfl, by rw [if_pos q2]⟩⟩
  ·have st83 : own_K p e below T13 m 71 #[rv ao, iv uw, iv uc, iv key, iv (Int32.ofNat qp), iv (Int32.ofNat (S qp)), iv (Int32.ofNat (64 * S qp + own_pl uw)), .unset, .unset, .unset] [.ref ao] B0 := fun t kt => st17 t (by
    refine XS.ifYes X13.here hx rfl (pc0 := 57) (pc' := 70) rfl (hb hby d5_57) rfl ((if0 _ _).trans (feq q2).2) (by decide) (by decide) ?_
    refine XS.aloadN X13.here hx rfl (hb hby d5_70) rfl rfl ?_
    exact kt)
   obtain ⟨T84, X84, e84, ls84⟩ := getF X13 hx hZ hown (host := "") (Or.inl (own_w hw 25 rfl)) Via.refl e13 F_ch1 (g := (mkF m 71 #[rv ao, iv uw, iv uc, iv key, iv (Int32.ofNat qp), iv (Int32.ofNat (S qp)), iv (Int32.ofNat (64 * S qp + own_pl uw)), .unset, .unset, .unset] [.ref ao])) rfl rfl (hb hby d5_71)
   have st85 := fun t kt => st83 t (ls84 t kt)
   have st86 : own_K p e below T84 m 77 #[rv ao, iv uw, iv uc, iv key, iv (Int32.ofNat qp), iv (Int32.ofNat (S qp)), iv (Int32.ofNat (64 * S qp + own_pl uw)), .unset, .unset, .unset] [.int uc, (.int (Int32.ofNat (64 * S qp + own_pl uw))), .ref bc1] B0 := fun t kt => st85 t (by
    refine XS.iload X84.here hx rfl (hb hby d5_74) rfl ?_
    refine XS.iloadN X84.here hx rfl (hb hby d5_76) rfl ?_
    exact kt)
   obtain ⟨T87, h87, X87, e87, W87, B87, ls87⟩ := own_iastore X84 hx hZ e84 A_bc1 (j := (Int32.ofNat (64 * S qp + own_pl uw))) (i := (64 * S qp + own_pl uw)) (xx.2) (xx.1) (by omega) (g := (mkF m 77 #[rv ao, iv uw, iv uc, iv key, iv (Int32.ofNat qp), iv (Int32.ofNat (S qp)), iv (Int32.ofNat (64 * S qp + own_pl uw)), .unset, .unset, .unset] [.int uc, (.int (Int32.ofNat (64 * S qp + own_pl uw))), .ref bc1])) rfl rfl (hb hby d5_77)
   have N87 := Fr.snoc X87 N2 g_bc1
   have f88 := E_ao1.wr W87
   have f89 := F_bl1.other W87 (Or.inl ne_ao_bc1)
   have f90 := F_ct1.other W87 (Or.inl ne_ao_bc1)
   have f91 := F_lk1.other W87 (Or.inl ne_ao_bc1)
   have f92 := F_lp1.other W87 (Or.inl ne_ao_bc1)
   have f93 := F_ke1.other W87 (Or.inl ne_ao_bc1)
   have f94 := F_sl1.other W87 (Or.inl ne_ao_bc1)
   have f95 := F_ch1.other W87 (Or.inl ne_ao_bc1)
   have f96 := F_pe1.other W87 (Or.inl ne_ao_bc1)
   have f97 := F_pc1.other W87 (Or.inl ne_ao_bc1)
   have f98 := A_bk1.other W87 ne_bk1_bc1
   have f99 := A_bl1.other W87 ne_bl1_bc1
   have f100 := A_bp1.other W87 (Ne.symm ne_bc1_bp1)
   have f101 := A_bq1.other W87 (Ne.symm ne_bc1_bq1)
   have f102 := H_pf1.wrA W87 A_bc1 (by decide)
   have f103 := Sm2.wr W87 g_bc1
   have z104 := Nat.le_trans Zq2 (Keep.of_wr W87).1
   have f105 := B87.congr (g := (fun q => .int ((fun q => if q = (64 * S qp + own_pl uw) then uc else Ch q) q))) (fun q hq => (apply_ite Value.int _ _ _).symm)
   have st106 := fun t kt => st86 t (ls87 t kt)
   obtain ⟨bit, h_bit⟩ : ∃ z : Int64, z = ((1 : Int64) <<< ((uw &&& (63 : Int32)) &&& 0x3f).toInt64) := ⟨_, rfl⟩
   have st107 : own_K p e below T87 m 89 #[rv ao, iv uw, iv uc, iv key, iv (Int32.ofNat qp), iv (Int32.ofNat (S qp)), iv (Int32.ofNat (64 * S qp + own_pl uw)), .val (.long bit), .second, iv (Int32.ofNat 0)] [] B0 := fun t kt => st106 t (by
    refine XS.lconst X87.here hx rfl (hb hby d5_78) ?_
    refine XS.iloadN X87.here hx rfl (hb hby d5_79) rfl ?_
    refine XS.bipush X87.here hx rfl (hb hby d5_80) ?_
    refine XS.iand X87.here hx rfl (hb hby d5_82) rfl ?_
    refine XS.lshl X87.here hx rfl (hb hby d5_83) rfl ?_
    show own_At p e below T87 m 84 #[rv ao, iv uw, iv uc, iv key, iv (Int32.ofNat qp), iv (Int32.ofNat (S qp)), iv (Int32.ofNat (64 * S qp + own_pl uw)), .unset, .unset, .unset] [(.long ((1 : Int64) <<< ((uw &&& (63 : Int32)) &&& 0x3f).toInt64))] _
    rw [← h_bit]
    refine XS.lstore X87.here hx rfl (hb hby d5_84) rfl (l' := #[rv ao, iv uw, iv uc, iv key, iv (Int32.ofNat qp), iv (Int32.ofNat (S qp)), iv (Int32.ofNat (64 * S qp + own_pl uw)), .val (.long bit), .second, .unset]) rfl ?_
    refine XS.iconst X87.here hx rfl (hb hby d5_86) ?_
    refine XS.istore X87.here hx rfl (hb hby d5_87) rfl (l' := #[rv ao, iv uw, iv uc, iv key, iv (Int32.ofNat qp), iv (Int32.ofNat (S qp)), iv (Int32.ofNat (64 * S qp + own_pl uw)), .val (.long bit), .second, iv 0]) rfl ?_
    show own_At p e below T87 m 89 #[rv ao, iv uw, iv uc, iv key, iv (Int32.ofNat qp), iv (Int32.ofNat (S qp)), iv (Int32.ofNat (64 * S qp + own_pl uw)), .val (.long bit), .second, iv 0] [] _
    rw [show (0 : Int32) = (Int32.ofNat 0) from (rfl)]
    exact kt)
   obtain ⟨T108, L108, h108, X108, e108, N108, Z108, ⟨Sm108, E108, Fp108, Fq108, Ab108, Hp108, gg108, Aq108⟩, ls108⟩ := own_loopD ev cap (S qp) ao bp1 bq1 pf1 uw uc key (Int32.ofNat qp) (Int32.ofNat (64 * S qp + own_pl uw)) bit 0 0 hx hZ hw hby hml hown hev hsp h41 ne_ao_bq1 ne_bp1_bq1 ne_ao_bp1 g_bq1 ev 0 (by omega) _ _ _ X87 e87 N87 z104 ⟨f88, f96, f97, f100, f102, _, f101⟩
   have np_bk1 : ¬ (bk1 = bq1 ∨ ∃ q, q < ev ∧ bk1 = pf1 q) := fun z => z.elim ne_bk1_bq1 fun ⟨q, hq, e⟩ => by
    obtain ⟨fz, az⟩ := (f102 q hq).2.2
    exact own_ty f98 az (by decide) e
   have np_bl1 : ¬ (bl1 = bq1 ∨ ∃ q, q < ev ∧ bl1 = pf1 q) := fun z => z.elim ne_bl1_bq1 fun ⟨q, hq, e⟩ => by
    obtain ⟨fz, az⟩ := (f102 q hq).2.2
    exact own_ty f99 az (by decide) e
   have np_bc1 : ¬ (bc1 = bq1 ∨ ∃ q, q < ev ∧ bc1 = pf1 q) := fun z => z.elim ne_bc1_bq1 fun ⟨q, hq, e⟩ => by
    obtain ⟨fz, az⟩ := (f102 q hq).2.2
    exact own_ty f105 az (by decide) e
   have np_ao : ¬ (ao = bq1 ∨ ∃ q, q < ev ∧ ao = pf1 q) := fun z => z.elim ne_ao_bq1 fun ⟨q, hq, e⟩ => ne_exa f88 (f102 q hq).2.1 (by decide) e
   have f109 := own_ExaSm f88 Sm108 (np_ao)
   have f110 := own_FldSm f89 Sm108 (np_ao)
   have f111 := own_FldSm f90 Sm108 (np_ao)
   have f112 := own_FldSm f91 Sm108 (np_ao)
   have f113 := own_FldSm f92 Sm108 (np_ao)
   have f114 := own_FldSm f93 Sm108 (np_ao)
   have f115 := own_FldSm f94 Sm108 (np_ao)
   have f116 := own_FldSm f95 Sm108 (np_ao)
   have f117 := own_FldSm f96 Sm108 (np_ao)
   have f118 := own_FldSm f97 Sm108 (np_ao)
   have f119 := f98.sm Sm108 (np_bk1)
   have f120 := f99.sm Sm108 (np_bl1)
   have f121 := f103.trans (own_Sm.mono Sm108 (fun x hx => hx.elim (fun e => e ▸ g_bq1) fun ⟨q, hq, e⟩ => e ▸ (f102 q hq).1))
   have f122 := f105.sm Sm108 (np_bc1)
   have st123 := fun t kt => st107 t (ls108 t kt)
   obtain ⟨fs, hr, hrun, hended, hW, hsame⟩ := X108.leave (v := none) (fun _ => rfl)
   subst hB0
   refine ⟨_, _, st123 _ ?_, hrun, hended, _, _, rfl, ?_, ⟨_, rfl⟩, hW, hsame.mono (by decide) (by decide)⟩
   ·exact X108.returnOut hx Bd.returns (hb hby d5_149) hr
   ·show Q_rm_grow Z ao uw uc nb cap K S Ch ct ev h0 n0 _ T108.heap _
    rw [e108]
    exact ⟨rfl, N108, Z108, f121, nb, cap, _, _, _, _, _, by omega, h41, ⟨f109, f110, f111, f112, ⟨_, f113⟩, bk1, bl1, bc1, bp1, bq1, by
     intro x hx
     simp only [List.mem_cons, List.not_mem_nil, or_false] at hx
     rcases hx with rfl | rfl | rfl | rfl | rfl | rfl
     ·exact g_ao
     ·exact g_bk1
     ·exact g_bl1
     ·exact g_bc1
     ·exact g_bp1
     ·exact g_bq1, by simp [ne_ao_bk1, ne_ao_bl1, ne_ao_bc1, ne_ao_bp1, ne_ao_bq1, ne_bk1_bl1, ne_bk1_bc1, ne_bk1_bp1, ne_bk1_bq1, ne_bl1_bc1, ne_bl1_bp1, ne_bl1_bq1, ne_bc1_bp1, ne_bc1_bq1, ne_bp1_bq1], f114, f115, f116, f117, f118, f119, f120, f122, ⟨pf1, Ab108, Hp108⟩, _, Aq108⟩, Or.inl ⟨qp, hq, hKq.trans hke.symm, rfl, rfl, rfl, rfl, by rw [if_neg q2]⟩⟩
 ·have hneg := own_negr qp (by omega)
  have hc124 : r2 < (0 : Int32) := by rw [hrq]; exact hneg.1
  have st125 : own_K p e below T2 m 24 #[rv ao, iv uw, iv uc, iv key, iv r2, .unset, .unset, .unset, .unset, .unset] [.int (Int32.ofNat qp), .int key, .ref ao] B0 := fun t kt => st4 t (by
   refine XS.ifNo X2.here hx rfl (hb hby d5_14) rfl ((if0 _ _).trans (tlt hc124).2.1) ?_
   refine XS.aloadN X2.here hx rfl (hb hby d5_17) rfl rfl ?_
   refine XS.iloadN X2.here hx rfl (hb hby d5_18) rfl ?_
   refine XS.iload X2.here hx rfl (hb hby d5_19) rfl ?_
   refine XS.ineg X2.here hx rfl (hb hby d5_21) rfl ?_
   refine XS.iconst X2.here hx rfl (hb hby d5_22) ?_
   refine XS.isub X2.here hx rfl (hb hby d5_23) rfl ?_
   show own_At p e below T2 m 24 #[rv ao, iv uw, iv uc, iv key, iv r2, .unset, .unset, .unset, .unset, .unset] [(.int ((-r2) - (1 : Int32))), .int key, .ref ao] _
   rw [show ((-r2) - (1 : Int32)) = (Int32.ofNat qp) from (by rw [hrq]; exact hneg.2)]
   exact kt)
  obtain ⟨cq126, q126, q126'⟩ := Eq2.cell
  obtain ⟨_, _, ⟨T126, L126, k126, n126⟩, -, X126, ⟨Lc126, hQ126, l126, y126, z126⟩, ls126⟩ := X2.privateBack hx (y := (⟨"com/example/saturation/saturation/OpenNode", "insert", "(II)I"⟩ : MethodName)) hown (mvT hZ (own_w hw 57 rfl)) (mvT hZ (own_w hw 58 rfl)) (Jvm.Kit.selects_private (by decide) (mvT hZ (own_w hw 11 rfl)) (mvP hZ (own_w hw 59 rfl)) (mvT hZ (own_w hw 58 rfl))) (Cond.privateMethod_at (mvP hZ (own_w hw 59 rfl) (args := #[]))) (mvT hZ (own_w hw 60 rfl)) (by decide) (backOf (W := 0) (rm_insert l Z a0 hw [] ao key nb cap K S Ch ct lk2 ev qp T2.heap n0 Zq2 Nn2 hq hnc hc1 hc2 hev hz) hZ (own_w hw 60 rfl) (own_w hw 12 rfl) (by decide) (by decide)) (g := (mkF m 24 #[rv ao, iv uw, iv uc, iv key, iv r2, .unset, .unset, .unset, .unset, .unset] [.int (Int32.ofNat qp), .int key, .ref ao])) rfl (by rw [hml]; rfl) (Steps.refl _) (a := ao) (q126) q126' (argsL := [.int key, .int (Int32.ofNat qp)]) (rest := []) (lenOf own_pd0 rfl) rfl (by show 2 * 0 + _ ≤ _; exact Nat.le_of_eq rfl) (hb hby d5_24) (fun _ _ => ⟨rfl, rfl, (by decide : 0 + 6 ≤ _), (by decide : 0 + 276 ≤ _)⟩)
  dsimp only [Pt.U, Pt.locs, Pt.cells, Pt.slots] at X126 l126 y126 z126 ls126 hQ126
  subst l126 y126 z126
  obtain ⟨rfl, Nq126, Zq126, Sm126, cp126, K126, S126, Ch126, lk126, hca126, hcb126, Nn126, hI126⟩ := hQ126
  have N126 := Fr.app N2 Nq126
  have st127 : own_K p e below T126 m 27 #[rv ao, iv uw, iv uc, iv key, iv r2, .unset, .unset, .unset, .unset, .unset] [.int (Int32.ofNat qp)] B0 := fun t kt => st125 t (ls126.trans kt)
  have Eq126 := Nn126.1
  have SmT := Sm2.trans Sm126
  obtain ⟨i1, i2, i3, i4, i5, i6⟩ := id hI126
  obtain ⟨E_ao2, F_bl2, F_ct2, F_lk2, ⟨lp2, F_lp2⟩, bk2, bl2, bc2, bp2, bq2, hge2, nd2, F_ke2, F_sl2, F_ch2, F_pe2, F_pc2, A_bk2, A_bl2, A_bc2, ⟨pf2, A_bp2, H_pf2⟩, gq2, A_bq2⟩ := Nn126
  have g_ao := hge2 ao (List.mem_of_getElem? (i := 0) rfl)
  have ne_ao_bk2 := own_nd nd2 0 1 rfl rfl (by decide)
  have ne_ao_bl2 := own_nd nd2 0 2 rfl rfl (by decide)
  have ne_ao_bc2 := own_nd nd2 0 3 rfl rfl (by decide)
  have ne_ao_bp2 := own_nd nd2 0 4 rfl rfl (by decide)
  have ne_ao_bq2 := own_nd nd2 0 5 rfl rfl (by decide)
  have g_bk2 := hge2 bk2 (List.mem_of_getElem? (i := 1) rfl)
  have ne_bk2_bl2 := own_nd nd2 1 2 rfl rfl (by decide)
  have ne_bk2_bc2 := own_nd nd2 1 3 rfl rfl (by decide)
  have ne_bk2_bp2 := own_nd nd2 1 4 rfl rfl (by decide)
  have ne_bk2_bq2 := own_nd nd2 1 5 rfl rfl (by decide)
  have g_bl2 := hge2 bl2 (List.mem_of_getElem? (i := 2) rfl)
  have ne_bl2_bc2 := own_nd nd2 2 3 rfl rfl (by decide)
  have ne_bl2_bp2 := own_nd nd2 2 4 rfl rfl (by decide)
  have ne_bl2_bq2 := own_nd nd2 2 5 rfl rfl (by decide)
  have g_bc2 := hge2 bc2 (List.mem_of_getElem? (i := 3) rfl)
  have ne_bc2_bp2 := own_nd nd2 3 4 rfl rfl (by decide)
  have ne_bc2_bq2 := own_nd nd2 3 5 rfl rfl (by decide)
  have g_bp2 := hge2 bp2 (List.mem_of_getElem? (i := 4) rfl)
  have ne_bp2_bq2 := own_nd nd2 4 5 rfl rfl (by decide)
  have g_bq2 := hge2 bq2 (List.mem_of_getElem? (i := 5) rfl)
  have hsp : S126 qp < cp126 := by rw [i3]; omega
  have pl2 := own_pl_lt uw
  have h42 : cp126 ≤ 4 := hcb126
  have pp := own_nat32 (show qp < 2 ^ 31 by omega)
  have xx := own_nat32 (show 64 * S126 qp + own_pl uw < 2 ^ 31 by omega)
  have hpc : qp < cp126 := by omega
  have st128 : own_K p e below T126 m 30 #[rv ao, iv uw, iv uc, iv key, iv (Int32.ofNat qp), .unset, .unset, .unset, .unset, .unset] [.ref ao] B0 := fun t kt => st127 t (by
   refine XS.istore X126.here hx rfl (hb hby d5_27) rfl (l' := #[rv ao, iv uw, iv uc, iv key, iv (Int32.ofNat qp), .unset, .unset, .unset, .unset, .unset]) rfl ?_
   refine XS.aloadN X126.here hx rfl (hb hby d5_29) rfl rfl ?_
   exact kt)
  obtain ⟨T129, X129, e129, ls129⟩ := getF X126 hx hZ hown (host := "") (Or.inl (own_w hw 23 rfl)) Via.refl rfl F_sl2 (g := (mkF m 30 #[rv ao, iv uw, iv uc, iv key, iv (Int32.ofNat qp), .unset, .unset, .unset, .unset, .unset] [.ref ao])) rfl rfl (hb hby d5_30)
  have st130 := fun t kt => st128 t (ls129 t kt)
  have st131 : own_K p e below T129 m 35 #[rv ao, iv uw, iv uc, iv key, iv (Int32.ofNat qp), .unset, .unset, .unset, .unset, .unset] [.int (Int32.ofNat qp), .ref bl2] B0 := fun t kt => st130 t (by
   refine XS.iload X129.here hx rfl (hb hby d5_33) rfl ?_
   exact kt)
  have ls132 := own_iaload X129 hx hZ e129 A_bl2 (j := (Int32.ofNat qp)) (i := qp) (pp.2) (pp.1) (hpc) (v := (.int (Int32.ofNat (S126 qp)))) (rfl) (g := (mkF m 35 #[rv ao, iv uw, iv uc, iv key, iv (Int32.ofNat qp), .unset, .unset, .unset, .unset, .unset] [.int (Int32.ofNat qp), .ref bl2])) rfl rfl (hb hby d5_35)
  have st133 := fun t kt => st131 t (ls132 t kt)
  have st134 : own_K p e below T129 m 51 #[rv ao, iv uw, iv uc, iv key, iv (Int32.ofNat qp), iv (Int32.ofNat (S126 qp)), iv (Int32.ofNat (64 * S126 qp + own_pl uw)), .unset, .unset, .unset] [.ref ao] B0 := fun t kt => st133 t (by
   refine XS.istore X129.here hx rfl (hb hby d5_36) rfl (l' := #[rv ao, iv uw, iv uc, iv key, iv (Int32.ofNat qp), iv (Int32.ofNat (S126 qp)), .unset, .unset, .unset, .unset]) rfl ?_
   refine XS.iload X129.here hx rfl (hb hby d5_38) rfl ?_
   refine XS.bipush X129.here hx rfl (hb hby d5_40) ?_
   refine XS.ishl X129.here hx rfl (hb hby d5_42) rfl ?_
   refine XS.iloadN X129.here hx rfl (hb hby d5_43) rfl ?_
   refine XS.bipush X129.here hx rfl (hb hby d5_44) ?_
   refine XS.iand X129.here hx rfl (hb hby d5_46) rfl ?_
   refine XS.ior X129.here hx rfl (hb hby d5_47) rfl ?_
   show own_At p e below T129 m 48 #[rv ao, iv uw, iv uc, iv key, iv (Int32.ofNat qp), iv (Int32.ofNat (S126 qp)), .unset, .unset, .unset, .unset] [(.int (((Int32.ofNat (S126 qp)) <<< ((6 : Int32) &&& 31)) ||| (uw &&& (63 : Int32))))] _
   rw [show (((Int32.ofNat (S126 qp)) <<< ((6 : Int32) &&& 31)) ||| (uw &&& (63 : Int32))) = (Int32.ofNat (64 * S126 qp + own_pl uw)) from (own_idx6 (S126 qp) uw (by omega))]
   refine XS.istore X129.here hx rfl (hb hby d5_48) rfl (l' := #[rv ao, iv uw, iv uc, iv key, iv (Int32.ofNat qp), iv (Int32.ofNat (S126 qp)), iv (Int32.ofNat (64 * S126 qp + own_pl uw)), .unset, .unset, .unset]) rfl ?_
   refine XS.aloadN X129.here hx rfl (hb hby d5_50) rfl rfl ?_
   exact kt)
  obtain ⟨T135, X135, e135, ls135⟩ := getF X129 hx hZ hown (host := "") (Or.inl (own_w hw 25 rfl)) Via.refl e129 F_ch2 (g := (mkF m 51 #[rv ao, iv uw, iv uc, iv key, iv (Int32.ofNat qp), iv (Int32.ofNat (S126 qp)), iv (Int32.ofNat (64 * S126 qp + own_pl uw)), .unset, .unset, .unset] [.ref ao])) rfl rfl (hb hby d5_51)
  have st136 := fun t kt => st134 t (ls135 t kt)
  have st137 : own_K p e below T135 m 56 #[rv ao, iv uw, iv uc, iv key, iv (Int32.ofNat qp), iv (Int32.ofNat (S126 qp)), iv (Int32.ofNat (64 * S126 qp + own_pl uw)), .unset, .unset, .unset] [(.int (Int32.ofNat (64 * S126 qp + own_pl uw))), .ref bc2] B0 := fun t kt => st136 t (by
   refine XS.iload X135.here hx rfl (hb hby d5_54) rfl ?_
   exact kt)
  have ls138 := own_iaload X135 hx hZ e135 A_bc2 (j := (Int32.ofNat (64 * S126 qp + own_pl uw))) (i := (64 * S126 qp + own_pl uw)) (xx.2) (xx.1) (by omega) (v := (.int (Ch126 (64 * S126 qp + own_pl uw)))) (rfl) (g := (mkF m 56 #[rv ao, iv uw, iv uc, iv key, iv (Int32.ofNat qp), iv (Int32.ofNat (S126 qp)), iv (Int32.ofNat (64 * S126 qp + own_pl uw)), .unset, .unset, .unset] [(.int (Int32.ofNat (64 * S126 qp + own_pl uw))), .ref bc2])) rfl rfl (hb hby d5_56)
  have st139 := fun t kt => st137 t (ls138 t kt)
  by_cases q2 : (Ch126 (64 * S126 qp + own_pl uw)) = (0 : Int32)
  ·have st140 : own_K p e below T135 m 62 #[rv ao, iv uw, iv uc, iv key, iv (Int32.ofNat qp), iv (Int32.ofNat (S126 qp)), iv (Int32.ofNat (64 * S126 qp + own_pl uw)), .unset, .unset, .unset] [.ref ao, .ref ao] B0 := fun t kt => st139 t (by
    refine XS.ifNo X135.here hx rfl (hb hby d5_57) rfl ((if0 _ _).trans (teq q2).2) ?_
    refine XS.aloadN X135.here hx rfl (hb hby d5_60) rfl rfl ?_
    refine XS.dup X135.here hx rfl (hb hby d5_61) rfl rfl ?_
    exact kt)
   obtain ⟨T141, X141, e141, ls141⟩ := getF X135 hx hZ hown (host := "") (Or.inl (own_w hw 28 rfl)) Via.refl e135 F_ct2 (g := (mkF m 62 #[rv ao, iv uw, iv uc, iv key, iv (Int32.ofNat qp), iv (Int32.ofNat (S126 qp)), iv (Int32.ofNat (64 * S126 qp + own_pl uw)), .unset, .unset, .unset] [.ref ao, .ref ao])) rfl rfl (hb hby d5_62)
   have st142 := fun t kt => st140 t (ls141 t kt)
   have st143 : own_K p e below T141 m 67 #[rv ao, iv uw, iv uc, iv key, iv (Int32.ofNat qp), iv (Int32.ofNat (S126 qp)), iv (Int32.ofNat (64 * S126 qp + own_pl uw)), .unset, .unset, .unset] [(.int (ct + (1 : Int32))), .ref ao] B0 := fun t kt => st142 t (by
    refine XS.iconst X141.here hx rfl (hb hby d5_65) ?_
    refine XS.iadd X141.here hx rfl (hb hby d5_66) rfl ?_
    exact kt)
   obtain ⟨T144, h144, X144, e144, W144, ls144⟩ := putF X141 hx hZ hown (host := "") (Or.inl (own_w hw 28 rfl)) Via.refl e141 F_ct2 E_ao2 (Or.inl (own_w hw 29 rfl)) (own_w hw 11 rfl) (ty := .int) (by decide) rfl rfl (g := (mkF m 67 #[rv ao, iv uw, iv uc, iv key, iv (Int32.ofNat qp), iv (Int32.ofNat (S126 qp)), iv (Int32.ofNat (64 * S126 qp + own_pl uw)), .unset, .unset, .unset] [(.int (ct + (1 : Int32))), .ref ao])) rfl rfl (hb hby d5_67)
   have N144 := Fr.snoc X144 N126 g_ao
   have f145 := E_ao2.wr W144
   have f146 := F_bl2.other W144 (Or.inr (own_s46_29 hw))
   have f147 := F_ct2.same W144
   have f148 := F_lk2.other W144 (Or.inr (own_s20_29 hw))
   have f149 := F_lp2.other W144 (Or.inr (own_s66_29 hw))
   have f150 := F_ke2.other W144 (Or.inr (own_s22_29 hw))
   have f151 := F_sl2.other W144 (Or.inr (own_s24_29 hw))
   have f152 := F_ch2.other W144 (Or.inr (own_s26_29 hw))
   have f153 := F_pe2.other W144 (Or.inr (own_s33_29 hw))
   have f154 := F_pc2.other W144 (Or.inr (own_s35_29 hw))
   have f155 := A_bk2.other W144 (Ne.symm ne_ao_bk2)
   have f156 := A_bl2.other W144 (Ne.symm ne_ao_bl2)
   have f157 := A_bc2.other W144 (Ne.symm ne_ao_bc2)
   have f158 := A_bp2.other W144 (Ne.symm ne_ao_bp2)
   have f159 := A_bq2.other W144 (Ne.symm ne_ao_bq2)
   have f160 := H_pf2.wrO W144 E_ao2 (by decide)
   have f161 := SmT.wr W144 g_ao
   have z162 := Nat.le_trans Zq126 (Keep.of_wr W144).1
   have st163 := fun t kt => st143 t (ls144 t kt)
   have st164 : own_K p e below T144 m 71 #[rv ao, iv uw, iv uc, iv key, iv (Int32.ofNat qp), iv (Int32.ofNat (S126 qp)), iv (Int32.ofNat (64 * S126 qp + own_pl uw)), .unset, .unset, .unset] [.ref ao] B0 := fun t kt => st163 t (by
    refine XS.aloadN X144.here hx rfl (hb hby d5_70) rfl rfl ?_
    exact kt)
   obtain ⟨T165, X165, e165, ls165⟩ := getF X144 hx hZ hown (host := "") (Or.inl (own_w hw 25 rfl)) Via.refl e144 f152 (g := (mkF m 71 #[rv ao, iv uw, iv uc, iv key, iv (Int32.ofNat qp), iv (Int32.ofNat (S126 qp)), iv (Int32.ofNat (64 * S126 qp + own_pl uw)), .unset, .unset, .unset] [.ref ao])) rfl rfl (hb hby d5_71)
   have st166 := fun t kt => st164 t (ls165 t kt)
   have st167 : own_K p e below T165 m 77 #[rv ao, iv uw, iv uc, iv key, iv (Int32.ofNat qp), iv (Int32.ofNat (S126 qp)), iv (Int32.ofNat (64 * S126 qp + own_pl uw)), .unset, .unset, .unset] [.int uc, (.int (Int32.ofNat (64 * S126 qp + own_pl uw))), .ref bc2] B0 := fun t kt => st166 t (by
    refine XS.iload X165.here hx rfl (hb hby d5_74) rfl ?_
    refine XS.iloadN X165.here hx rfl (hb hby d5_76) rfl ?_
    exact kt)
   obtain ⟨T168, h168, X168, e168, W168, B168, ls168⟩ := own_iastore X165 hx hZ e165 f157 (j := (Int32.ofNat (64 * S126 qp + own_pl uw))) (i := (64 * S126 qp + own_pl uw)) (xx.2) (xx.1) (by omega) (g := (mkF m 77 #[rv ao, iv uw, iv uc, iv key, iv (Int32.ofNat qp), iv (Int32.ofNat (S126 qp)), iv (Int32.ofNat (64 * S126 qp + own_pl uw)), .unset, .unset, .unset] [.int uc, (.int (Int32.ofNat (64 * S126 qp + own_pl uw))), .ref bc2])) rfl rfl (hb hby d5_77)
   have N168 := Fr.snoc X168 N144 g_bc2
   have f169 := f145.wr W168
   have f170 := f146.other W168 (Or.inl ne_ao_bc2)
   have f171 := f147.other W168 (Or.inl ne_ao_bc2)
   have f172 := f148.other W168 (Or.inl ne_ao_bc2)
   have f173 := f149.other W168 (Or.inl ne_ao_bc2)
   have f174 := f150.other W168 (Or.inl ne_ao_bc2)
   have f175 := f151.other W168 (Or.inl ne_ao_bc2)
   have f176 := f152.other W168 (Or.inl ne_ao_bc2)
   have f177 := f153.other W168 (Or.inl ne_ao_bc2)
   have f178 := f154.other W168 (Or.inl ne_ao_bc2)
   have f179 := f155.other W168 ne_bk2_bc2
   have f180 := f156.other W168 ne_bl2_bc2
   have f181 := f158.other W168 (Ne.symm ne_bc2_bp2)
   have f182 := f159.other W168 (Ne.symm ne_bc2_bq2)
   have f183 := f160.wrA W168 f157 (by decide)
   have f184 := f161.wr W168 g_bc2
   have z185 := Nat.le_trans z162 (Keep.of_wr W168).1
   have f186 := B168.congr (g := (fun q => .int ((fun q => if q = (64 * S126 qp + own_pl uw) then uc else Ch126 q) q))) (fun q hq => (apply_ite Value.int _ _ _).symm)
   have st187 := fun t kt => st167 t (ls168 t kt)
   obtain ⟨bit, h_bit⟩ : ∃ z : Int64, z = ((1 : Int64) <<< ((uw &&& (63 : Int32)) &&& 0x3f).toInt64) := ⟨_, rfl⟩
   have st188 : own_K p e below T168 m 89 #[rv ao, iv uw, iv uc, iv key, iv (Int32.ofNat qp), iv (Int32.ofNat (S126 qp)), iv (Int32.ofNat (64 * S126 qp + own_pl uw)), .val (.long bit), .second, iv (Int32.ofNat 0)] [] B0 := fun t kt => st187 t (by
    refine XS.lconst X168.here hx rfl (hb hby d5_78) ?_
    refine XS.iloadN X168.here hx rfl (hb hby d5_79) rfl ?_
    refine XS.bipush X168.here hx rfl (hb hby d5_80) ?_
    refine XS.iand X168.here hx rfl (hb hby d5_82) rfl ?_
    refine XS.lshl X168.here hx rfl (hb hby d5_83) rfl ?_
    show own_At p e below T168 m 84 #[rv ao, iv uw, iv uc, iv key, iv (Int32.ofNat qp), iv (Int32.ofNat (S126 qp)), iv (Int32.ofNat (64 * S126 qp + own_pl uw)), .unset, .unset, .unset] [(.long ((1 : Int64) <<< ((uw &&& (63 : Int32)) &&& 0x3f).toInt64))] _
    rw [← h_bit]
    refine XS.lstore X168.here hx rfl (hb hby d5_84) rfl (l' := #[rv ao, iv uw, iv uc, iv key, iv (Int32.ofNat qp), iv (Int32.ofNat (S126 qp)), iv (Int32.ofNat (64 * S126 qp + own_pl uw)), .val (.long bit), .second, .unset]) rfl ?_
    refine XS.iconst X168.here hx rfl (hb hby d5_86) ?_
    refine XS.istore X168.here hx rfl (hb hby d5_87) rfl (l' := #[rv ao, iv uw, iv uc, iv key, iv (Int32.ofNat qp), iv (Int32.ofNat (S126 qp)), iv (Int32.ofNat (64 * S126 qp + own_pl uw)), .val (.long bit), .second, iv 0]) rfl ?_
    show own_At p e below T168 m 89 #[rv ao, iv uw, iv uc, iv key, iv (Int32.ofNat qp), iv (Int32.ofNat (S126 qp)), iv (Int32.ofNat (64 * S126 qp + own_pl uw)), .val (.long bit), .second, iv 0] [] _
    rw [show (0 : Int32) = (Int32.ofNat 0) from (rfl)]
    exact kt)
   obtain ⟨T189, L189, h189, X189, e189, N189, Z189, ⟨Sm189, E189, Fp189, Fq189, Ab189, Hp189, gg189, Aq189⟩, ls189⟩ := own_loopD ev cp126 (S126 qp) ao bp2 bq2 pf2 uw uc key (Int32.ofNat qp) (Int32.ofNat (64 * S126 qp + own_pl uw)) bit 6 276 hx hZ hw hby hml hown hev hsp h42 ne_ao_bq2 ne_bp2_bq2 ne_ao_bp2 g_bq2 ev 0 (by omega) _ _ _ X168 e168 N168 z185 ⟨f169, f177, f178, f181, f183, _, f182⟩
   have np_bk2 : ¬ (bk2 = bq2 ∨ ∃ q, q < ev ∧ bk2 = pf2 q) := fun z => z.elim ne_bk2_bq2 fun ⟨q, hq, e⟩ => by
    obtain ⟨fz, az⟩ := (f183 q hq).2.2
    exact own_ty f179 az (by decide) e
   have np_bl2 : ¬ (bl2 = bq2 ∨ ∃ q, q < ev ∧ bl2 = pf2 q) := fun z => z.elim ne_bl2_bq2 fun ⟨q, hq, e⟩ => by
    obtain ⟨fz, az⟩ := (f183 q hq).2.2
    exact own_ty f180 az (by decide) e
   have np_bc2 : ¬ (bc2 = bq2 ∨ ∃ q, q < ev ∧ bc2 = pf2 q) := fun z => z.elim ne_bc2_bq2 fun ⟨q, hq, e⟩ => by
    obtain ⟨fz, az⟩ := (f183 q hq).2.2
    exact own_ty f186 az (by decide) e
   have np_ao : ¬ (ao = bq2 ∨ ∃ q, q < ev ∧ ao = pf2 q) := fun z => z.elim ne_ao_bq2 fun ⟨q, hq, e⟩ => ne_exa f169 (f183 q hq).2.1 (by decide) e
   have f190 := own_ExaSm f169 Sm189 (np_ao)
   have f191 := own_FldSm f170 Sm189 (np_ao)
   have f192 := own_FldSm f171 Sm189 (np_ao)
   have f193 := own_FldSm f172 Sm189 (np_ao)
   have f194 := own_FldSm f173 Sm189 (np_ao)
   have f195 := own_FldSm f174 Sm189 (np_ao)
   have f196 := own_FldSm f175 Sm189 (np_ao)
   have f197 := own_FldSm f176 Sm189 (np_ao)
   have f198 := own_FldSm f177 Sm189 (np_ao)
   have f199 := own_FldSm f178 Sm189 (np_ao)
   have f200 := f179.sm Sm189 (np_bk2)
   have f201 := f180.sm Sm189 (np_bl2)
   have f202 := f184.trans (own_Sm.mono Sm189 (fun x hx => hx.elim (fun e => e ▸ g_bq2) fun ⟨q, hq, e⟩ => e ▸ (f183 q hq).1))
   have f203 := f186.sm Sm189 (np_bc2)
   have st204 := fun t kt => st188 t (ls189 t kt)
   obtain ⟨fs, hr, hrun, hended, hW, hsame⟩ := X189.leave (v := none) (fun _ => rfl)
   subst hB0
   refine ⟨_, _, st204 _ ?_, hrun, hended, _, _, rfl, ?_, ⟨_, rfl⟩, hW, hsame.mono (by decide) (by decide)⟩
   ·exact X189.returnOut hx Bd.returns (hb hby d5_149) hr
   ·show Q_rm_grow Z ao uw uc nb cap K S Ch ct ev h0 n0 _ T189.heap _
    rw [e189]
    exact ⟨rfl, N189, Z189, f202, (nb + 1), cp126, _, _, _, _, _, by omega, h42, ⟨f190, f191, f192, f193, ⟨_, f194⟩, bk2, bl2, bc2, bp2, bq2, by
     intro x hx
     simp only [List.mem_cons, List.not_mem_nil, or_false] at hx
     rcases hx with rfl | rfl | rfl | rfl | rfl | rfl
     ·exact g_ao
     ·exact g_bk2
     ·exact g_bl2
     ·exact g_bc2
     ·exact g_bp2
     ·exact g_bq2, by simp [ne_ao_bk2, ne_ao_bl2, ne_ao_bc2, ne_ao_bp2, ne_ao_bq2, ne_bk2_bl2, ne_bk2_bc2, ne_bk2_bp2, ne_bk2_bq2, ne_bl2_bc2, ne_bl2_bp2, ne_bl2_bq2, ne_bc2_bp2, ne_bc2_bq2, ne_bp2_bq2], f195, f196, f197, f198, f199, f200, f201, f203, ⟨pf2, Ab189, Hp189⟩, _, Aq189⟩, Or.inr ⟨qp, hq, fun j hj => by rw [hke]; exact hlo j hj, fun j h1 h2 => by rw [hke]; exact hhi j h1 h2, rfl, Ch126, by rw [hke]; exact hI126, by rw [i3], rfl⟩⟩
  ·have st205 : own_K p e below T135 m 71 #[rv ao, iv uw, iv uc, iv key, iv (Int32.ofNat qp), iv (Int32.ofNat (S126 qp)), iv (Int32.ofNat (64 * S126 qp + own_pl uw)), .unset, .unset, .unset] [.ref ao] B0 := fun t kt => st139 t (by
    refine XS.ifYes X135.here hx rfl (pc0 := 57) (pc' := 70) rfl (hb hby d5_57) rfl ((if0 _ _).trans (feq q2).2) (by decide) (by decide) ?_
    refine XS.aloadN X135.here hx rfl (hb hby d5_70) rfl rfl ?_
    exact kt)
   obtain ⟨T206, X206, e206, ls206⟩ := getF X135 hx hZ hown (host := "") (Or.inl (own_w hw 25 rfl)) Via.refl e135 F_ch2 (g := (mkF m 71 #[rv ao, iv uw, iv uc, iv key, iv (Int32.ofNat qp), iv (Int32.ofNat (S126 qp)), iv (Int32.ofNat (64 * S126 qp + own_pl uw)), .unset, .unset, .unset] [.ref ao])) rfl rfl (hb hby d5_71)
   have st207 := fun t kt => st205 t (ls206 t kt)
   have st208 : own_K p e below T206 m 77 #[rv ao, iv uw, iv uc, iv key, iv (Int32.ofNat qp), iv (Int32.ofNat (S126 qp)), iv (Int32.ofNat (64 * S126 qp + own_pl uw)), .unset, .unset, .unset] [.int uc, (.int (Int32.ofNat (64 * S126 qp + own_pl uw))), .ref bc2] B0 := fun t kt => st207 t (by
    refine XS.iload X206.here hx rfl (hb hby d5_74) rfl ?_
    refine XS.iloadN X206.here hx rfl (hb hby d5_76) rfl ?_
    exact kt)
   obtain ⟨T209, h209, X209, e209, W209, B209, ls209⟩ := own_iastore X206 hx hZ e206 A_bc2 (j := (Int32.ofNat (64 * S126 qp + own_pl uw))) (i := (64 * S126 qp + own_pl uw)) (xx.2) (xx.1) (by omega) (g := (mkF m 77 #[rv ao, iv uw, iv uc, iv key, iv (Int32.ofNat qp), iv (Int32.ofNat (S126 qp)), iv (Int32.ofNat (64 * S126 qp + own_pl uw)), .unset, .unset, .unset] [.int uc, (.int (Int32.ofNat (64 * S126 qp + own_pl uw))), .ref bc2])) rfl rfl (hb hby d5_77)
   have N209 := Fr.snoc X209 N126 g_bc2
   have f210 := E_ao2.wr W209
   have f211 := F_bl2.other W209 (Or.inl ne_ao_bc2)
   have f212 := F_ct2.other W209 (Or.inl ne_ao_bc2)
   have f213 := F_lk2.other W209 (Or.inl ne_ao_bc2)
   have f214 := F_lp2.other W209 (Or.inl ne_ao_bc2)
   have f215 := F_ke2.other W209 (Or.inl ne_ao_bc2)
   have f216 := F_sl2.other W209 (Or.inl ne_ao_bc2)
   have f217 := F_ch2.other W209 (Or.inl ne_ao_bc2)
   have f218 := F_pe2.other W209 (Or.inl ne_ao_bc2)
   have f219 := F_pc2.other W209 (Or.inl ne_ao_bc2)
   have f220 := A_bk2.other W209 ne_bk2_bc2
   have f221 := A_bl2.other W209 ne_bl2_bc2
   have f222 := A_bp2.other W209 (Ne.symm ne_bc2_bp2)
   have f223 := A_bq2.other W209 (Ne.symm ne_bc2_bq2)
   have f224 := H_pf2.wrA W209 A_bc2 (by decide)
   have f225 := SmT.wr W209 g_bc2
   have z226 := Nat.le_trans Zq126 (Keep.of_wr W209).1
   have f227 := B209.congr (g := (fun q => .int ((fun q => if q = (64 * S126 qp + own_pl uw) then uc else Ch126 q) q))) (fun q hq => (apply_ite Value.int _ _ _).symm)
   have st228 := fun t kt => st208 t (ls209 t kt)
   obtain ⟨bit, h_bit⟩ : ∃ z : Int64, z = ((1 : Int64) <<< ((uw &&& (63 : Int32)) &&& 0x3f).toInt64) := ⟨_, rfl⟩
   have st229 : own_K p e below T209 m 89 #[rv ao, iv uw, iv uc, iv key, iv (Int32.ofNat qp), iv (Int32.ofNat (S126 qp)), iv (Int32.ofNat (64 * S126 qp + own_pl uw)), .val (.long bit), .second, iv (Int32.ofNat 0)] [] B0 := fun t kt => st228 t (by
    refine XS.lconst X209.here hx rfl (hb hby d5_78) ?_
    refine XS.iloadN X209.here hx rfl (hb hby d5_79) rfl ?_
    refine XS.bipush X209.here hx rfl (hb hby d5_80) ?_
    refine XS.iand X209.here hx rfl (hb hby d5_82) rfl ?_
    refine XS.lshl X209.here hx rfl (hb hby d5_83) rfl ?_
    show own_At p e below T209 m 84 #[rv ao, iv uw, iv uc, iv key, iv (Int32.ofNat qp), iv (Int32.ofNat (S126 qp)), iv (Int32.ofNat (64 * S126 qp + own_pl uw)), .unset, .unset, .unset] [(.long ((1 : Int64) <<< ((uw &&& (63 : Int32)) &&& 0x3f).toInt64))] _
    rw [← h_bit]
    refine XS.lstore X209.here hx rfl (hb hby d5_84) rfl (l' := #[rv ao, iv uw, iv uc, iv key, iv (Int32.ofNat qp), iv (Int32.ofNat (S126 qp)), iv (Int32.ofNat (64 * S126 qp + own_pl uw)), .val (.long bit), .second, .unset]) rfl ?_
    refine XS.iconst X209.here hx rfl (hb hby d5_86) ?_
    refine XS.istore X209.here hx rfl (hb hby d5_87) rfl (l' := #[rv ao, iv uw, iv uc, iv key, iv (Int32.ofNat qp), iv (Int32.ofNat (S126 qp)), iv (Int32.ofNat (64 * S126 qp + own_pl uw)), .val (.long bit), .second, iv 0]) rfl ?_
    show own_At p e below T209 m 89 #[rv ao, iv uw, iv uc, iv key, iv (Int32.ofNat qp), iv (Int32.ofNat (S126 qp)), iv (Int32.ofNat (64 * S126 qp + own_pl uw)), .val (.long bit), .second, iv 0] [] _
    rw [show (0 : Int32) = (Int32.ofNat 0) from (rfl)]
    exact kt)
   obtain ⟨T230, L230, h230, X230, e230, N230, Z230, ⟨Sm230, E230, Fp230, Fq230, Ab230, Hp230, gg230, Aq230⟩, ls230⟩ := own_loopD ev cp126 (S126 qp) ao bp2 bq2 pf2 uw uc key (Int32.ofNat qp) (Int32.ofNat (64 * S126 qp + own_pl uw)) bit 6 276 hx hZ hw hby hml hown hev hsp h42 ne_ao_bq2 ne_bp2_bq2 ne_ao_bp2 g_bq2 ev 0 (by omega) _ _ _ X209 e209 N209 z226 ⟨f210, f218, f219, f222, f224, _, f223⟩
   have np_bk2 : ¬ (bk2 = bq2 ∨ ∃ q, q < ev ∧ bk2 = pf2 q) := fun z => z.elim ne_bk2_bq2 fun ⟨q, hq, e⟩ => by
    obtain ⟨fz, az⟩ := (f224 q hq).2.2
    exact own_ty f220 az (by decide) e
   have np_bl2 : ¬ (bl2 = bq2 ∨ ∃ q, q < ev ∧ bl2 = pf2 q) := fun z => z.elim ne_bl2_bq2 fun ⟨q, hq, e⟩ => by
    obtain ⟨fz, az⟩ := (f224 q hq).2.2
    exact own_ty f221 az (by decide) e
   have np_bc2 : ¬ (bc2 = bq2 ∨ ∃ q, q < ev ∧ bc2 = pf2 q) := fun z => z.elim ne_bc2_bq2 fun ⟨q, hq, e⟩ => by
    obtain ⟨fz, az⟩ := (f224 q hq).2.2
    exact own_ty f227 az (by decide) e
   have np_ao : ¬ (ao = bq2 ∨ ∃ q, q < ev ∧ ao = pf2 q) := fun z => z.elim ne_ao_bq2 fun ⟨q, hq, e⟩ => ne_exa f210 (f224 q hq).2.1 (by decide) e
   have f231 := own_ExaSm f210 Sm230 (np_ao)
   have f232 := own_FldSm f211 Sm230 (np_ao)
   have f233 := own_FldSm f212 Sm230 (np_ao)
   have f234 := own_FldSm f213 Sm230 (np_ao)
   have f235 := own_FldSm f214 Sm230 (np_ao)
   have f236 := own_FldSm f215 Sm230 (np_ao)
   have f237 := own_FldSm f216 Sm230 (np_ao)
   have f238 := own_FldSm f217 Sm230 (np_ao)
   have f239 := own_FldSm f218 Sm230 (np_ao)
   have f240 := own_FldSm f219 Sm230 (np_ao)
   have f241 := f220.sm Sm230 (np_bk2)
   have f242 := f221.sm Sm230 (np_bl2)
   have f243 := f225.trans (own_Sm.mono Sm230 (fun x hx => hx.elim (fun e => e ▸ g_bq2) fun ⟨q, hq, e⟩ => e ▸ (f224 q hq).1))
   have f244 := f227.sm Sm230 (np_bc2)
   have st245 := fun t kt => st229 t (ls230 t kt)
   obtain ⟨fs, hr, hrun, hended, hW, hsame⟩ := X230.leave (v := none) (fun _ => rfl)
   subst hB0
   refine ⟨_, _, st245 _ ?_, hrun, hended, _, _, rfl, ?_, ⟨_, rfl⟩, hW, hsame.mono (by decide) (by decide)⟩
   ·exact X230.returnOut hx Bd.returns (hb hby d5_149) hr
   ·show Q_rm_grow Z ao uw uc nb cap K S Ch ct ev h0 n0 _ T230.heap _
    rw [e230]
    exact ⟨rfl, N230, Z230, f243, (nb + 1), cp126, _, _, _, _, _, by omega, h42, ⟨f231, f232, f233, f234, ⟨_, f235⟩, bk2, bl2, bc2, bp2, bq2, by
     intro x hx
     simp only [List.mem_cons, List.not_mem_nil, or_false] at hx
     rcases hx with rfl | rfl | rfl | rfl | rfl | rfl
     ·exact g_ao
     ·exact g_bk2
     ·exact g_bl2
     ·exact g_bc2
     ·exact g_bp2
     ·exact g_bq2, by simp [ne_ao_bk2, ne_ao_bl2, ne_ao_bc2, ne_ao_bp2, ne_ao_bq2, ne_bk2_bl2, ne_bk2_bc2, ne_bk2_bp2, ne_bk2_bq2, ne_bl2_bc2, ne_bl2_bp2, ne_bl2_bq2, ne_bc2_bp2, ne_bc2_bq2, ne_bp2_bq2], f236, f237, f238, f239, f240, f241, f242, f244, ⟨pf2, Ab230, Hp230⟩, _, Aq230⟩, absurd (i6 _ (by rw [i3]; omega) (by rw [i3]; omega)) q2⟩
set_option maxRecDepth 65536 in
set_option maxHeartbeats 40000000 in
theorem own_loopI {p : Program} {l : Launch} {e : Env} {R : Room} {s : State} {m : MethodId} {args : Array Value} {below : List Frame} {meth : Method} {c : Code} {Z : State} {a0 : Array Value} {n0 : Nat} (ev : Nat) (nb : Nat) (cap : Nat) (cn : Nat) (qq : Nat) (K : Nat → Int32) (S : Nat → Nat) (Ch : Nat → Int32) (ao : Addr) (br : Addr) (bk : Addr) (bc : Addr) (cells : Nat) (slots : Nat) (hx : p.tables.exec = Jvm.exec) (hZ : Z.Warmed39 s.vm) (hw : ∀ d ∈ tables_1, d.before a0 Z = true) (hby : c.code = prog_38_method_8_code) (hml : c.maxLocals = 6) (hown : s.vm.findClass "com/example/saturation/saturation/OpenNode" = some m.cls) (h64 : ev = 64) (hq : qq < nb) (hnc : nb ≤ cap) (hc4 : cap ≤ 4) (hS : S qq < cap) (hlen : (own_ot K (own_g S Ch) nb).length = 2 * cn) (hcn : cn ≤ 3) (ne_ao_br : ao ≠ br) (ne_bk_br : bk ≠ br) (ne_bc_br : bc ≠ br) (g_br : n0 ≤ br) :
  ∀ (k i : Nat), i + k = ev → ∀ (T0 : State) (locs : List Loc) (h : Heap), Stand p l e R s m args below meth c T0 locs cells slots → T0.heap = h → Fr n0 locs → n0 ≤ h.size → (Exa Z h ao "com/example/saturation/saturation/OpenNode" ∧ Fld Z h ao "com/example/saturation/saturation/OpenNode" "keys" "[I" (.ref bk) ∧ Fld Z h ao "com/example/saturation/saturation/OpenNode" "children" "[I" (.ref bc) ∧ own_Av Z h bk .int cap (fun q => .int (K q)) ∧ own_Av Z h bc .int (64 * cap) (fun q => .int (Ch q)) ∧ own_Av Z h br .int (2 * cn) (fun q => .int ((own_A K (own_g S Ch) qq i).getD q 0))) →
   ∃ (T' : State) (locs' : List Loc) (h' : Heap), Stand p l e R s m args below meth c T' locs' cells slots ∧ T'.heap = h' ∧ Fr n0 locs' ∧ n0 ≤ h'.size ∧ (own_Sm (fun x => x = br) h h' ∧ own_Av Z h' br .int (2 * cn) (fun q => .int ((own_A K (own_g S Ch) qq ev).getD q 0))) ∧ own_Go p e below (T'.setTop (mkF m 95 #[rv ao, rv br, iv (Int32.ofNat (own_A K (own_g S Ch) qq ev).length), iv (Int32.ofNat qq), iv (Int32.ofNat (64 * S qq)), iv (Int32.ofNat ev)] [])) (T0.setTop (mkF m 35 #[rv ao, rv br, iv (Int32.ofNat (own_A K (own_g S Ch) qq i).length), iv (Int32.ofNat qq), iv (Int32.ofNat (64 * S qq)), iv (Int32.ofNat i)] [])) := by
 intro k
 induction k with
 | zero =>
  intro i hi  T0 locs h X0 e0 N0 Z0 inv
  have st0 : own_Go p e below (T0.setTop (mkF m 35 #[rv ao, rv br, iv (Int32.ofNat (own_A K (own_g S Ch) qq i).length), iv (Int32.ofNat qq), iv (Int32.ofNat (64 * S qq)), iv (Int32.ofNat i)] [])) (T0.setTop (mkF m 35 #[rv ao, rv br, iv (Int32.ofNat (own_A K (own_g S Ch) qq i).length), iv (Int32.ofNat qq), iv (Int32.ofNat (64 * S qq)), iv (Int32.ofNat i)] [])) := fun _ k => k
  obtain ⟨E_ao, F_ke, F_ch, A_bk, A_bc, A_br⟩ := inv
  have e_i : i = ev := by omega
  have hc1 : (63 : Int32) < (Int32.ofNat i) := by rw [show (63 : Int32) = Int32.ofNat 63 from rfl, own_ltN (by decide) (by omega)]; omega
  have st2 : own_Go p e below (T0.setTop (mkF m 95 #[rv ao, rv br, iv (Int32.ofNat (own_A K (own_g S Ch) qq ev).length), iv (Int32.ofNat qq), iv (Int32.ofNat (64 * S qq)), iv (Int32.ofNat ev)] [])) (T0.setTop (mkF m 35 #[rv ao, rv br, iv (Int32.ofNat (own_A K (own_g S Ch) qq i).length), iv (Int32.ofNat qq), iv (Int32.ofNat (64 * S qq)), iv (Int32.ofNat i)] [])) := fun t kt => st0 t (by
   refine XS.iload X0.here hx rfl (hb hby d11_35) rfl ?_
   refine XS.bipush X0.here hx rfl (hb hby d11_37) ?_
   refine XS.icmpYes X0.here hx rfl (pc0 := 39) (pc' := 95) rfl (hb hby d11_39) rfl (tlt hc1).2.2.1 (by decide) (by decide) ?_
   show own_At p e below T0 m 95 #[rv ao, rv br, iv (Int32.ofNat (own_A K (own_g S Ch) qq i).length), iv (Int32.ofNat qq), iv (Int32.ofNat (64 * S qq)), iv (Int32.ofNat i)] [] _
   rw [show (Int32.ofNat i) = (Int32.ofNat ev) from (by rw [e_i])]
   show own_At p e below T0 m 95 #[rv ao, rv br, iv (Int32.ofNat (own_A K (own_g S Ch) qq i).length), iv (Int32.ofNat qq), iv (Int32.ofNat (64 * S qq)), iv (Int32.ofNat ev)] [] _
   rw [show (Int32.ofNat (own_A K (own_g S Ch) qq i).length) = (Int32.ofNat (own_A K (own_g S Ch) qq ev).length) from (by rw [e_i])]
   exact kt)
  exact ⟨_, _, _, X0, e0, N0, Z0, ⟨own_Sm.refl, by rw [← e_i]; exact A_br⟩, st2⟩
 | succ k ih =>
  intro i hi  T0 locs h X0 e0 N0 Z0 inv
  have st0 : own_Go p e below (T0.setTop (mkF m 35 #[rv ao, rv br, iv (Int32.ofNat (own_A K (own_g S Ch) qq i).length), iv (Int32.ofNat qq), iv (Int32.ofNat (64 * S qq)), iv (Int32.ofNat i)] [])) (T0.setTop (mkF m 35 #[rv ao, rv br, iv (Int32.ofNat (own_A K (own_g S Ch) qq i).length), iv (Int32.ofNat qq), iv (Int32.ofNat (64 * S qq)), iv (Int32.ofNat i)] [])) := fun _ k => k
  obtain ⟨E_ao, F_ke, F_ch, A_bk, A_bc, A_br⟩ := inv
  have hiv : i < 64 := by omega
  have ii := own_nat32 (show 64 * S qq + i < 2 ^ 31 by omega)
  have hlm := own_A_le K (own_g S Ch) qq nb i hq (by omega)
  have hln : (own_A K (own_g S Ch) qq i).length < 2 ^ 31 := by omega
  have aa := own_nat32 hln
  have qk := own_nat32 (show qq < 2 ^ 31 by omega)
  have hc3 : ¬ ((63 : Int32) < (Int32.ofNat i)) := by rw [show (63 : Int32) = Int32.ofNat 63 from rfl, own_ltN (by decide) (by omega)]; omega
  have st4 : own_Go p e below (T0.setTop (mkF m 43 #[rv ao, rv br, iv (Int32.ofNat (own_A K (own_g S Ch) qq i).length), iv (Int32.ofNat qq), iv (Int32.ofNat (64 * S qq)), iv (Int32.ofNat i)] [.ref ao])) (T0.setTop (mkF m 35 #[rv ao, rv br, iv (Int32.ofNat (own_A K (own_g S Ch) qq i).length), iv (Int32.ofNat qq), iv (Int32.ofNat (64 * S qq)), iv (Int32.ofNat i)] [])) := fun t kt => st0 t (by
   refine XS.iload X0.here hx rfl (hb hby d11_35) rfl ?_
   refine XS.bipush X0.here hx rfl (hb hby d11_37) ?_
   refine XS.icmpNo X0.here hx rfl (hb hby d11_39) rfl (flt hc3).2.2.1 ?_
   refine XS.aloadN X0.here hx rfl (hb hby d11_42) rfl rfl ?_
   exact kt)
  obtain ⟨T5, X5, e5, ls5⟩ := getF X0 hx hZ hown (host := "") (Or.inl (own_w hw 25 rfl)) Via.refl e0 F_ch (g := (mkF m 43 #[rv ao, rv br, iv (Int32.ofNat (own_A K (own_g S Ch) qq i).length), iv (Int32.ofNat qq), iv (Int32.ofNat (64 * S qq)), iv (Int32.ofNat i)] [.ref ao])) rfl rfl (hb hby d11_43)
  have st6 := fun t kt => st4 t (ls5 t kt)
  have st7 : own_Go p e below (T5.setTop (mkF m 51 #[rv ao, rv br, iv (Int32.ofNat (own_A K (own_g S Ch) qq i).length), iv (Int32.ofNat qq), iv (Int32.ofNat (64 * S qq)), iv (Int32.ofNat i)] [(.int (Int32.ofNat (64 * S qq + i))), .ref bc])) (T0.setTop (mkF m 35 #[rv ao, rv br, iv (Int32.ofNat (own_A K (own_g S Ch) qq i).length), iv (Int32.ofNat qq), iv (Int32.ofNat (64 * S qq)), iv (Int32.ofNat i)] [])) := fun t kt => st6 t (by
   refine XS.iload X5.here hx rfl (hb hby d11_46) rfl ?_
   refine XS.iload X5.here hx rfl (hb hby d11_48) rfl ?_
   refine XS.ior X5.here hx rfl (hb hby d11_50) rfl ?_
   show own_At p e below T5 m 51 #[rv ao, rv br, iv (Int32.ofNat (own_A K (own_g S Ch) qq i).length), iv (Int32.ofNat qq), iv (Int32.ofNat (64 * S qq)), iv (Int32.ofNat i)] [(.int ((Int32.ofNat (64 * S qq)) ||| (Int32.ofNat i))), .ref bc] _
   rw [show ((Int32.ofNat (64 * S qq)) ||| (Int32.ofNat i)) = (Int32.ofNat (64 * S qq + i)) from (own_orN (S qq) i (by omega) hiv)]
   exact kt)
  have ls8 := own_iaload X5 hx hZ e5 A_bc (j := (Int32.ofNat (64 * S qq + i))) (i := (64 * S qq + i)) (ii.2) (ii.1) (by omega) (v := (.int (Ch (64 * S qq + i)))) (rfl) (g := (mkF m 51 #[rv ao, rv br, iv (Int32.ofNat (own_A K (own_g S Ch) qq i).length), iv (Int32.ofNat qq), iv (Int32.ofNat (64 * S qq)), iv (Int32.ofNat i)] [(.int (Int32.ofNat (64 * S qq + i))), .ref bc])) rfl rfl (hb hby d11_51)
  have st9 := fun t kt => st7 t (ls8 t kt)
  by_cases q1 : (Ch (64 * S qq + i)) = (0 : Int32)
  ·have e_A : (own_A K (own_g S Ch) qq (i + 1)) = (own_A K (own_g S Ch) qq i) := own_A_zero q1
   have st10 : own_Go p e below (T5.setTop (mkF m 35 #[rv ao, rv br, iv (Int32.ofNat (own_A K (own_g S Ch) qq (i + 1)).length), iv (Int32.ofNat qq), iv (Int32.ofNat (64 * S qq)), iv (Int32.ofNat (i + 1))] [])) (T0.setTop (mkF m 35 #[rv ao, rv br, iv (Int32.ofNat (own_A K (own_g S Ch) qq i).length), iv (Int32.ofNat qq), iv (Int32.ofNat (64 * S qq)), iv (Int32.ofNat i)] [])) := fun t kt => st9 t (by
    refine XS.ifYes X5.here hx rfl (pc0 := 52) (pc' := 89) rfl (hb hby d11_52) rfl ((if0 _ _).trans (teq q1).1) (by decide) (by decide) ?_
    refine XS.iinc X5.here hx rfl (hb hby d11_89) rfl (l' := #[rv ao, rv br, iv (Int32.ofNat (own_A K (own_g S Ch) qq i).length), iv (Int32.ofNat qq), iv (Int32.ofNat (64 * S qq)), iv ((Int32.ofNat i) + (1 : Int32))]) rfl ?_
    refine XS.goto X5.here hx rfl (pc0 := 92) (pc' := 35) rfl (hb hby d11_92) (by decide) (by decide) ?_
    show own_At p e below T5 m 35 #[rv ao, rv br, iv (Int32.ofNat (own_A K (own_g S Ch) qq i).length), iv (Int32.ofNat qq), iv (Int32.ofNat (64 * S qq)), iv ((Int32.ofNat i) + (1 : Int32))] [] _
    rw [show ((Int32.ofNat i) + (1 : Int32)) = (Int32.ofNat (i + 1)) from (own_up1 i)]
    show own_At p e below T5 m 35 #[rv ao, rv br, iv (Int32.ofNat (own_A K (own_g S Ch) qq i).length), iv (Int32.ofNat qq), iv (Int32.ofNat (64 * S qq)), iv (Int32.ofNat (i + 1))] [] _
    rw [show (Int32.ofNat (own_A K (own_g S Ch) qq i).length) = (Int32.ofNat (own_A K (own_g S Ch) qq (i + 1)).length) from (by rw [e_A])]
    exact kt)
   obtain ⟨T11, L11, h11, X11, e11, N11, Z11, P11, st11⟩ := ih (i + 1) (by omega)  _ _ _ X5 e5 N0 Z0 (⟨E_ao, F_ke, F_ch, A_bk, A_bc, by rw [e_A]; exact A_br⟩)
   exact ⟨T11, L11, h11, X11, e11, N11, Z11, P11, fun t kt => st10 t (st11 t kt)⟩
  ·have e_A := own_A_step (K := K) (g := own_g S Ch) (q := qq) (j := i) q1
   have hl2 := congrArg List.length e_A
   rw [List.length_append] at hl2
   simp only [List.length_cons, List.length_nil] at hl2
   have hlm2 := own_A_le K (own_g S Ch) qq nb (i + 1) hq (by omega)
   have a1 := own_nat32 (show (own_A K (own_g S Ch) qq i).length + 1 < 2 ^ 31 by omega)
   have st12 : own_Go p e below (T5.setTop (mkF m 61 #[rv ao, rv br, iv ((Int32.ofNat (own_A K (own_g S Ch) qq i).length) + (1 : Int32)), iv (Int32.ofNat qq), iv (Int32.ofNat (64 * S qq)), iv (Int32.ofNat i)] [.ref ao, (.int (Int32.ofNat (own_A K (own_g S Ch) qq i).length)), .ref br])) (T0.setTop (mkF m 35 #[rv ao, rv br, iv (Int32.ofNat (own_A K (own_g S Ch) qq i).length), iv (Int32.ofNat qq), iv (Int32.ofNat (64 * S qq)), iv (Int32.ofNat i)] [])) := fun t kt => st9 t (by
    refine XS.ifNo X5.here hx rfl (hb hby d11_52) rfl ((if0 _ _).trans (feq q1).1) ?_
    refine XS.aloadN X5.here hx rfl (hb hby d11_55) rfl rfl ?_
    refine XS.iloadN X5.here hx rfl (hb hby d11_56) rfl ?_
    refine XS.iinc X5.here hx rfl (hb hby d11_57) rfl (l' := #[rv ao, rv br, iv ((Int32.ofNat (own_A K (own_g S Ch) qq i).length) + (1 : Int32)), iv (Int32.ofNat qq), iv (Int32.ofNat (64 * S qq)), iv (Int32.ofNat i)]) rfl ?_
    refine XS.aloadN X5.here hx rfl (hb hby d11_60) rfl rfl ?_
    exact kt)
   obtain ⟨T13, X13, e13, ls13⟩ := getF X5 hx hZ hown (host := "") (Or.inl (own_w hw 21 rfl)) Via.refl e5 F_ke (g := (mkF m 61 #[rv ao, rv br, iv ((Int32.ofNat (own_A K (own_g S Ch) qq i).length) + (1 : Int32)), iv (Int32.ofNat qq), iv (Int32.ofNat (64 * S qq)), iv (Int32.ofNat i)] [.ref ao, (.int (Int32.ofNat (own_A K (own_g S Ch) qq i).length)), .ref br])) rfl rfl (hb hby d11_61)
   have st14 := fun t kt => st12 t (ls13 t kt)
   have st15 : own_Go p e below (T13.setTop (mkF m 65 #[rv ao, rv br, iv ((Int32.ofNat (own_A K (own_g S Ch) qq i).length) + (1 : Int32)), iv (Int32.ofNat qq), iv (Int32.ofNat (64 * S qq)), iv (Int32.ofNat i)] [.int (Int32.ofNat qq), .ref bk, (.int (Int32.ofNat (own_A K (own_g S Ch) qq i).length)), .ref br])) (T0.setTop (mkF m 35 #[rv ao, rv br, iv (Int32.ofNat (own_A K (own_g S Ch) qq i).length), iv (Int32.ofNat qq), iv (Int32.ofNat (64 * S qq)), iv (Int32.ofNat i)] [])) := fun t kt => st14 t (by
    refine XS.iloadN X13.here hx rfl (hb hby d11_64) rfl ?_
    exact kt)
   have ls16 := own_iaload X13 hx hZ e13 A_bk (j := (Int32.ofNat qq)) (i := qq) (qk.2) (qk.1) (by omega) (v := (.int (K qq))) (rfl) (g := (mkF m 65 #[rv ao, rv br, iv ((Int32.ofNat (own_A K (own_g S Ch) qq i).length) + (1 : Int32)), iv (Int32.ofNat qq), iv (Int32.ofNat (64 * S qq)), iv (Int32.ofNat i)] [.int (Int32.ofNat qq), .ref bk, (.int (Int32.ofNat (own_A K (own_g S Ch) qq i).length)), .ref br])) rfl rfl (hb hby d11_65)
   have st17 := fun t kt => st15 t (ls16 t kt)
   have st18 : own_Go p e below (T13.setTop (mkF m 72 #[rv ao, rv br, iv ((Int32.ofNat (own_A K (own_g S Ch) qq i).length) + (1 : Int32)), iv (Int32.ofNat qq), iv (Int32.ofNat (64 * S qq)), iv (Int32.ofNat i)] [(.int (((K qq) <<< ((6 : Int32) &&& 31)) ||| (Int32.ofNat i))), (.int (Int32.ofNat (own_A K (own_g S Ch) qq i).length)), .ref br])) (T0.setTop (mkF m 35 #[rv ao, rv br, iv (Int32.ofNat (own_A K (own_g S Ch) qq i).length), iv (Int32.ofNat qq), iv (Int32.ofNat (64 * S qq)), iv (Int32.ofNat i)] [])) := fun t kt => st17 t (by
    refine XS.bipush X13.here hx rfl (hb hby d11_66) ?_
    refine XS.ishl X13.here hx rfl (hb hby d11_68) rfl ?_
    refine XS.iload X13.here hx rfl (hb hby d11_69) rfl ?_
    refine XS.ior X13.here hx rfl (hb hby d11_71) rfl ?_
    exact kt)
   obtain ⟨T19, h19, X19, e19, W19, B19, ls19⟩ := own_iastore X13 hx hZ e13 A_br (j := (Int32.ofNat (own_A K (own_g S Ch) qq i).length)) (i := (own_A K (own_g S Ch) qq i).length) (aa.2) (aa.1) (by omega) (g := (mkF m 72 #[rv ao, rv br, iv ((Int32.ofNat (own_A K (own_g S Ch) qq i).length) + (1 : Int32)), iv (Int32.ofNat qq), iv (Int32.ofNat (64 * S qq)), iv (Int32.ofNat i)] [(.int (((K qq) <<< ((6 : Int32) &&& 31)) ||| (Int32.ofNat i))), (.int (Int32.ofNat (own_A K (own_g S Ch) qq i).length)), .ref br])) rfl rfl (hb hby d11_72)
   have N19 := Fr.snoc X19 N0 g_br
   have f20 := E_ao.wr W19
   have f21 := F_ke.other W19 (Or.inl ne_ao_br)
   have f22 := F_ch.other W19 (Or.inl ne_ao_br)
   have f23 := A_bk.other W19 ne_bk_br
   have f24 := A_bc.other W19 ne_bc_br
   have z25 := Nat.le_trans Z0 (Keep.of_wr W19).1
   have f26 := B19
   have st27 := fun t kt => st18 t (ls19 t kt)
   have st28 : own_Go p e below (T19.setTop (mkF m 79 #[rv ao, rv br, iv (((Int32.ofNat (own_A K (own_g S Ch) qq i).length) + (1 : Int32)) + (1 : Int32)), iv (Int32.ofNat qq), iv (Int32.ofNat (64 * S qq)), iv (Int32.ofNat i)] [.ref ao, (.int ((Int32.ofNat (own_A K (own_g S Ch) qq i).length) + (1 : Int32))), .ref br])) (T0.setTop (mkF m 35 #[rv ao, rv br, iv (Int32.ofNat (own_A K (own_g S Ch) qq i).length), iv (Int32.ofNat qq), iv (Int32.ofNat (64 * S qq)), iv (Int32.ofNat i)] [])) := fun t kt => st27 t (by
    refine XS.aloadN X19.here hx rfl (hb hby d11_73) rfl rfl ?_
    refine XS.iloadN X19.here hx rfl (hb hby d11_74) rfl ?_
    refine XS.iinc X19.here hx rfl (hb hby d11_75) rfl (l' := #[rv ao, rv br, iv (((Int32.ofNat (own_A K (own_g S Ch) qq i).length) + (1 : Int32)) + (1 : Int32)), iv (Int32.ofNat qq), iv (Int32.ofNat (64 * S qq)), iv (Int32.ofNat i)]) rfl ?_
    refine XS.aloadN X19.here hx rfl (hb hby d11_78) rfl rfl ?_
    exact kt)
   obtain ⟨T29, X29, e29, ls29⟩ := getF X19 hx hZ hown (host := "") (Or.inl (own_w hw 25 rfl)) Via.refl e19 f22 (g := (mkF m 79 #[rv ao, rv br, iv (((Int32.ofNat (own_A K (own_g S Ch) qq i).length) + (1 : Int32)) + (1 : Int32)), iv (Int32.ofNat qq), iv (Int32.ofNat (64 * S qq)), iv (Int32.ofNat i)] [.ref ao, (.int ((Int32.ofNat (own_A K (own_g S Ch) qq i).length) + (1 : Int32))), .ref br])) rfl rfl (hb hby d11_79)
   have st30 := fun t kt => st28 t (ls29 t kt)
   have st31 : own_Go p e below (T29.setTop (mkF m 87 #[rv ao, rv br, iv (((Int32.ofNat (own_A K (own_g S Ch) qq i).length) + (1 : Int32)) + (1 : Int32)), iv (Int32.ofNat qq), iv (Int32.ofNat (64 * S qq)), iv (Int32.ofNat i)] [(.int (Int32.ofNat (64 * S qq + i))), .ref bc, (.int ((Int32.ofNat (own_A K (own_g S Ch) qq i).length) + (1 : Int32))), .ref br])) (T0.setTop (mkF m 35 #[rv ao, rv br, iv (Int32.ofNat (own_A K (own_g S Ch) qq i).length), iv (Int32.ofNat qq), iv (Int32.ofNat (64 * S qq)), iv (Int32.ofNat i)] [])) := fun t kt => st30 t (by
    refine XS.iload X29.here hx rfl (hb hby d11_82) rfl ?_
    refine XS.iload X29.here hx rfl (hb hby d11_84) rfl ?_
    refine XS.ior X29.here hx rfl (hb hby d11_86) rfl ?_
    show own_At p e below T29 m 87 #[rv ao, rv br, iv (((Int32.ofNat (own_A K (own_g S Ch) qq i).length) + (1 : Int32)) + (1 : Int32)), iv (Int32.ofNat qq), iv (Int32.ofNat (64 * S qq)), iv (Int32.ofNat i)] [(.int ((Int32.ofNat (64 * S qq)) ||| (Int32.ofNat i))), .ref bc, (.int ((Int32.ofNat (own_A K (own_g S Ch) qq i).length) + (1 : Int32))), .ref br] _
    rw [show ((Int32.ofNat (64 * S qq)) ||| (Int32.ofNat i)) = (Int32.ofNat (64 * S qq + i)) from (own_orN (S qq) i (by omega) hiv)]
    exact kt)
   have ls32 := own_iaload X29 hx hZ e29 f24 (j := (Int32.ofNat (64 * S qq + i))) (i := (64 * S qq + i)) (ii.2) (ii.1) (by omega) (v := (.int (Ch (64 * S qq + i)))) (rfl) (g := (mkF m 87 #[rv ao, rv br, iv (((Int32.ofNat (own_A K (own_g S Ch) qq i).length) + (1 : Int32)) + (1 : Int32)), iv (Int32.ofNat qq), iv (Int32.ofNat (64 * S qq)), iv (Int32.ofNat i)] [(.int (Int32.ofNat (64 * S qq + i))), .ref bc, (.int ((Int32.ofNat (own_A K (own_g S Ch) qq i).length) + (1 : Int32))), .ref br])) rfl rfl (hb hby d11_87)
   have st33 := fun t kt => st31 t (ls32 t kt)
   have st34 : own_Go p e below (T29.setTop (mkF m 88 #[rv ao, rv br, iv ((Int32.ofNat ((own_A K (own_g S Ch) qq i).length + 1)) + (1 : Int32)), iv (Int32.ofNat qq), iv (Int32.ofNat (64 * S qq)), iv (Int32.ofNat i)] [(.int (Ch (64 * S qq + i))), (.int (Int32.ofNat ((own_A K (own_g S Ch) qq i).length + 1))), .ref br])) (T0.setTop (mkF m 35 #[rv ao, rv br, iv (Int32.ofNat (own_A K (own_g S Ch) qq i).length), iv (Int32.ofNat qq), iv (Int32.ofNat (64 * S qq)), iv (Int32.ofNat i)] [])) := fun t kt => st33 t (by
    show own_At p e below T29 m 88 #[rv ao, rv br, iv (((Int32.ofNat (own_A K (own_g S Ch) qq i).length) + (1 : Int32)) + (1 : Int32)), iv (Int32.ofNat qq), iv (Int32.ofNat (64 * S qq)), iv (Int32.ofNat i)] [(.int (Ch (64 * S qq + i))), (.int ((Int32.ofNat (own_A K (own_g S Ch) qq i).length) + (1 : Int32))), .ref br] _
    rw [show ((Int32.ofNat (own_A K (own_g S Ch) qq i).length) + (1 : Int32)) = (Int32.ofNat ((own_A K (own_g S Ch) qq i).length + 1)) from (own_up1 _)]
    exact kt)
   obtain ⟨T35, h35, X35, e35, W35, B35, ls35⟩ := own_iastore X29 hx hZ e29 f26 (j := (Int32.ofNat ((own_A K (own_g S Ch) qq i).length + 1))) (i := ((own_A K (own_g S Ch) qq i).length + 1)) (a1.2) (a1.1) (by omega) (g := (mkF m 88 #[rv ao, rv br, iv ((Int32.ofNat ((own_A K (own_g S Ch) qq i).length + 1)) + (1 : Int32)), iv (Int32.ofNat qq), iv (Int32.ofNat (64 * S qq)), iv (Int32.ofNat i)] [(.int (Ch (64 * S qq + i))), (.int (Int32.ofNat ((own_A K (own_g S Ch) qq i).length + 1))), .ref br])) rfl rfl (hb hby d11_88)
   have N35 := Fr.snoc X35 N19 g_br
   have f36 := f20.wr W35
   have f37 := f21.other W35 (Or.inl ne_ao_br)
   have f38 := f22.other W35 (Or.inl ne_ao_br)
   have f39 := f23.other W35 ne_bk_br
   have f40 := f24.other W35 ne_bc_br
   have z41 := Nat.le_trans z25 (Keep.of_wr W35).1
   have f42 := B35.congr (g := (fun q => .int ((own_A K (own_g S Ch) qq (i + 1)).getD q 0))) (fun q hq => by rw [e_A]; exact own_getD3 _ _ _ q)
   have st43 := fun t kt => st34 t (ls35 t kt)
   have st44 : own_Go p e below (T35.setTop (mkF m 35 #[rv ao, rv br, iv (Int32.ofNat (own_A K (own_g S Ch) qq (i + 1)).length), iv (Int32.ofNat qq), iv (Int32.ofNat (64 * S qq)), iv (Int32.ofNat (i + 1))] [])) (T0.setTop (mkF m 35 #[rv ao, rv br, iv (Int32.ofNat (own_A K (own_g S Ch) qq i).length), iv (Int32.ofNat qq), iv (Int32.ofNat (64 * S qq)), iv (Int32.ofNat i)] [])) := fun t kt => st43 t (by
    refine XS.iinc X35.here hx rfl (hb hby d11_89) rfl (l' := #[rv ao, rv br, iv ((Int32.ofNat ((own_A K (own_g S Ch) qq i).length + 1)) + (1 : Int32)), iv (Int32.ofNat qq), iv (Int32.ofNat (64 * S qq)), iv ((Int32.ofNat i) + (1 : Int32))]) rfl ?_
    refine XS.goto X35.here hx rfl (pc0 := 92) (pc' := 35) rfl (hb hby d11_92) (by decide) (by decide) ?_
    show own_At p e below T35 m 35 #[rv ao, rv br, iv ((Int32.ofNat ((own_A K (own_g S Ch) qq i).length + 1)) + (1 : Int32)), iv (Int32.ofNat qq), iv (Int32.ofNat (64 * S qq)), iv ((Int32.ofNat i) + (1 : Int32))] [] _
    rw [show ((Int32.ofNat i) + (1 : Int32)) = (Int32.ofNat (i + 1)) from (own_up1 i)]
    show own_At p e below T35 m 35 #[rv ao, rv br, iv ((Int32.ofNat ((own_A K (own_g S Ch) qq i).length + 1)) + (1 : Int32)), iv (Int32.ofNat qq), iv (Int32.ofNat (64 * S qq)), iv (Int32.ofNat (i + 1))] [] _
    rw [show ((Int32.ofNat ((own_A K (own_g S Ch) qq i).length + 1)) + (1 : Int32)) = (Int32.ofNat (own_A K (own_g S Ch) qq (i + 1)).length) from (by rw [hl2, own_up1])]
    exact kt)
   obtain ⟨T45, L45, h45, X45, e45, N45, Z45, P45, st45⟩ := ih (i + 1) (by omega)  _ _ _ X35 e35 N35 z41 (⟨f36, f37, f38, f39, f40, f42⟩)
   exact ⟨T45, L45, h45, X45, e45, N45, Z45, ⟨(((own_Sm.refl (P := fun x => x = br)).wr W19 rfl).wr W35 rfl).trans P45.1, P45.2⟩, fun t kt => st44 t (st45 t kt)⟩
def Q_rm_edges (Z : State) (ao : Addr) (nb : Nat) (cap : Nat) (K : Nat → Int32) (S : Nat → Nat) (Ch : Nat → Int32) (cn : Nat) (lk : Int32) (ev : Nat) (h0 : Heap) (n0 : Nat) (v : Option Value) (h : Heap) (L : List Loc) : Prop := ∃ r, v = some (.ref r) ∧ Fr n0 L ∧ n0 ≤ h.size ∧ own_Sm (fun x => n0 ≤ x) h0 h ∧ own_Av Z h r .int (2 * cn) (fun q => .int ((own_ot K (own_g S Ch) nb).getD q 0))
set_option maxRecDepth 65536 in
set_option maxHeartbeats 40000000 in
theorem rm_edges (l : Launch) (Z : State) (a0 : Array Value) (hw : ∀ d ∈ tables_1, d.before a0 Z = true) (ws : List Jvm.Cond) (ao : Addr) (nb : Nat) (cap : Nat) (K : Nat → Int32) (S : Nat → Nat) (Ch : Nat → Int32) (cn : Nat) (lk : Int32) (ev : Nat) (h0 : Heap) (n0 : Nat) (Z0 : n0 ≤ h0.size) (Nn : own_N Z h0 n0 ao nb cap K S Ch (Int32.ofNat cn) lk ev) (hnb : nb = 0 ∨ nb = 1 ∨ nb = 2 ∨ nb = 3) (hnc : nb ≤ cap) (hc4 : cap ≤ 4) (hS : ∀ q, q < nb → S q < cap) (hlen : (own_ot K (own_g S Ch) nb).length = 2 * cn) (hcn : cn ≤ 3) :
  MetFree l (⟨"com/example/saturation/saturation/OpenNode", "edges", "()[I"⟩ : MethodName) (head1 (Jvm.Cond.code (⟨"com/example/saturation/saturation/OpenNode", "edges", "()[I"⟩ : MethodName) prog_38_method_8_code 6 (some (.array .int)) :: ws) ({ frames := 0, cells := 1, slots := 6, locals := 0 } : Room)) (fun a U => a = #[.ref ao] ∧ Z.Warmed39 U.vm ∧ U.heap = h0) (fun _ _ _ _ _ => True) (fun _ U o U' => ∃ v L, o = .returned v ∧ Q_rm_edges Z ao nb cap K S Ch cn lk ev h0 n0 v U'.heap L ∧ FrameEnd U o U' L ({ frames := 0, cells := 1, slots := 6, locals := 0 } : Room).cells ({ frames := 0, cells := 1, slots := 6, locals := 0 } : Room).slots) := by
 refine MetFree.of_bodySF (plainFor_of_name own_pn1) hisR ?_
 intro p e s m args below meth c s₁ Bd hml0 hP hK
 obtain ⟨rfl, hZ, hh⟩ := hP
 have hx := Bd.exec
 have hby := Bd.bytes
 have hml : c.maxLocals = 6 := hml0
 have hown : s.vm.findClass "com/example/saturation/saturation/OpenNode" = some m.cls := findClass_of_methodNamed Bd.named
 have hnm := (name_of_methodNamed Bd.named Bd.method).1
 have X0 : Stand p l e ({ frames := 0, cells := 1, slots := 6, locals := 0 } : Room) s m #[.ref ao] below meth c s₁ [] 0 0 := Stand.of_body Bd
 have e0 : s₁.heap = h0 := by rw [← hh, Bd.state]; rfl
 have N0 := Fr.nil n0
 obtain ⟨B0, hB0⟩ : ∃ B, B = (s₁.setTop (entryFrame m #[.ref ao] 6)) := ⟨_, rfl⟩
 have st0 : own_K p e below s₁ m 0 #[rv ao, .unset, .unset, .unset, .unset, .unset] [] B0 := fun t kk0 => hB0 ▸ castTop (own_ef11_R m ao) kk0
 have S0 : own_Sm (fun x => n0 ≤ x) h0 h0 := own_Sm.refl
 have cc := own_nat32 (show 2 * cn < 2 ^ 31 by omega)
 obtain ⟨e64, he64⟩ : ∃ z : Nat, z = 64 := ⟨_, rfl⟩
 obtain ⟨qv0, hqv0⟩ : ∃ z : Nat, z = 0 := ⟨_, rfl⟩
 have qn0 := own_nat32 (show qv0 < 2 ^ 31 by omega)
 obtain ⟨qv1, hqv1⟩ : ∃ z : Nat, z = 1 := ⟨_, rfl⟩
 have qn1 := own_nat32 (show qv1 < 2 ^ 31 by omega)
 obtain ⟨qv2, hqv2⟩ : ∃ z : Nat, z = 2 := ⟨_, rfl⟩
 have qn2 := own_nat32 (show qv2 < 2 ^ 31 by omega)
 obtain ⟨qv3, hqv3⟩ : ∃ z : Nat, z = 3 := ⟨_, rfl⟩
 have qn3 := own_nat32 (show qv3 < 2 ^ 31 by omega)
 rcases hnb with hnb | hnb | hnb | hnb
 ·obtain ⟨E_ao, F_bl, F_ct, F_lk, ⟨lp, F_lp⟩, bk, bl, bc, bp, bq, hge, nd, F_ke, F_sl, F_ch, F_pe, F_pc, A_bk, A_bl, A_bc, ⟨pf, A_bp, H_pf⟩, gq, A_bq⟩ := Nn
  have g_ao := hge ao (List.mem_of_getElem? (i := 0) rfl)
  have g_bk := hge bk (List.mem_of_getElem? (i := 1) rfl)
  have g_bl := hge bl (List.mem_of_getElem? (i := 2) rfl)
  have g_bc := hge bc (List.mem_of_getElem? (i := 3) rfl)
  have g_bp := hge bp (List.mem_of_getElem? (i := 4) rfl)
  have g_bq := hge bq (List.mem_of_getElem? (i := 5) rfl)
  have st1 : own_K p e below s₁ m 2 #[rv ao, .unset, .unset, .unset, .unset, .unset] [.ref ao, .int 2] B0 := fun t kt => st0 t (by
   refine XS.iconst X0.here hx rfl (hb hby d11_0) ?_
   refine XS.aloadN X0.here hx rfl (hb hby d11_1) rfl rfl ?_
   exact kt)
  obtain ⟨T2, X2, e2, ls2⟩ := getF X0 hx hZ hown (host := "") (Or.inl (own_w hw 28 rfl)) Via.refl e0 F_ct (g := (mkF m 2 #[rv ao, .unset, .unset, .unset, .unset, .unset] [.ref ao, .int 2])) rfl rfl (hb hby d11_2)
  have st3 := fun t kt => st1 t (ls2 t kt)
  have st4 : own_K p e below T2 m 6 #[rv ao, .unset, .unset, .unset, .unset, .unset] [(.int (Int32.ofNat (2 * cn)))] B0 := fun t kt => st3 t (by
   refine XS.imul X2.here hx rfl (hb hby d11_5) rfl ?_
   show own_At p e below T2 m 6 #[rv ao, .unset, .unset, .unset, .unset, .unset] [(.int ((2 : Int32) * (Int32.ofNat cn)))] _
   rw [show ((2 : Int32) * (Int32.ofNat cn)) = (Int32.ofNat (2 * cn)) from (own_mul2 cn)]
   exact kt)
  obtain ⟨T5, h5, c5, X5, e5, E5, A5, ls5⟩ := newP X2 hx hZ (own_w hw 6 rfl) e2 (g := (mkF m 6 #[rv ao, .unset, .unset, .unset, .unset, .unset] [(.int (Int32.ofNat (2 * cn)))])) rfl (hb hby d11_6) rfl (cc.2) (cap := 6) (by rw [cc.1]; omega) (by decide) (by decide) (by decide)
  obtain ⟨br, g5⟩ : ∃ z, z = h0.size := ⟨_, rfl⟩
  rw [← g5] at A5 ls5
  have ne_ao_br : ao ≠ br := Nat.ne_of_lt (Nat.lt_of_lt_of_le E_ao.lt (Nat.le_of_eq g5.symm))
  have ne_bk_br : bk ≠ br := Nat.ne_of_lt (Nat.lt_of_lt_of_le A_bk.lt (Nat.le_of_eq g5.symm))
  have ne_bl_br : bl ≠ br := Nat.ne_of_lt (Nat.lt_of_lt_of_le A_bl.lt (Nat.le_of_eq g5.symm))
  have ne_bc_br : bc ≠ br := Nat.ne_of_lt (Nat.lt_of_lt_of_le A_bc.lt (Nat.le_of_eq g5.symm))
  have ne_bp_br : bp ≠ br := Nat.ne_of_lt (Nat.lt_of_lt_of_le A_bp.lt (Nat.le_of_eq g5.symm))
  have ne_bq_br : bq ≠ br := Nat.ne_of_lt (Nat.lt_of_lt_of_le A_bq.lt (Nat.le_of_eq g5.symm))
  have g_br : n0 ≤ br := Nat.le_trans Z0 (Nat.le_of_eq g5.symm)
  have f7 := F_bl.ext E5
  have f22 := S0.ext E5
  have z23 := Nat.le_trans Z0 E5.1
  have f24 : own_Av Z h5 br .int (2 * cn) (fun _ => (.int 0)) := own_Av.new A5 (cc.2) (cc.1)
  have st25 := fun t kt => st4 t (ls5 t kt)
  have e_00 : (own_A K (own_g S Ch) qv0 0) = [] := by rw [hqv0]; rfl
  have f26 : own_Av Z h5 br .int (2 * cn) (fun q => .int ((own_A K (own_g S Ch) qv0 0).getD q 0)) := f24.congr (fun q hq => by rw [e_00]; rfl)
  have st27 : own_K p e below T5 m 15 #[rv ao, rv br, iv (Int32.ofNat (own_A K (own_g S Ch) qv0 0).length), iv (Int32.ofNat qv0), .unset, .unset] [.ref ao, .int (Int32.ofNat qv0)] B0 := fun t kt => st25 t (by
   refine XS.astoreN X5.here hx rfl (hb hby d11_8) rfl rfl (l' := #[rv ao, rv br, .unset, .unset, .unset, .unset]) rfl ?_
   refine XS.iconst X5.here hx rfl (hb hby d11_9) ?_
   refine XS.istoreN X5.here hx rfl (hb hby d11_10) rfl (l' := #[rv ao, rv br, iv 0, .unset, .unset, .unset]) rfl ?_
   refine XS.iconst X5.here hx rfl (hb hby d11_11) ?_
   refine XS.istoreN X5.here hx rfl (hb hby d11_12) rfl (l' := #[rv ao, rv br, iv 0, iv 0, .unset, .unset]) rfl ?_
   show own_At p e below T5 m 13 #[rv ao, rv br, iv 0, iv 0, .unset, .unset] [] _
   have e_l : (0 : Int32) = Int32.ofNat (own_A K (own_g S Ch) qv0 0).length := by rw [e_00]; rfl
   have e_q : (0 : Int32) = Int32.ofNat qv0 := by rw [hqv0]; rfl
   refine own_cast2 (p := p) (e := e) (below := below) (T := T5) (m := m) (pc := 13) (x0 := .val (.ref ao)) (x1 := .val (.ref br)) (x4 := .unset) (x5 := .unset) e_l e_q ?_
   refine XS.iloadN X5.here hx rfl (hb hby d11_13) rfl ?_
   refine XS.aloadN X5.here hx rfl (hb hby d11_14) rfl rfl ?_
   exact kt)
  obtain ⟨T28, X28, e28, ls28⟩ := getF X5 hx hZ hown (host := "") (Or.inl (own_w hw 45 rfl)) Via.refl e5 f7 (g := (mkF m 15 #[rv ao, rv br, iv (Int32.ofNat (own_A K (own_g S Ch) qv0 0).length), iv (Int32.ofNat qv0), .unset, .unset] [.ref ao, .int (Int32.ofNat qv0)])) rfl rfl (hb hby d11_15)
  have st29 := fun t kt => st27 t (ls28 t kt)
  have hc30 : ¬ ((Int32.ofNat qv0) < (Int32.ofNat nb)) := by rw [own_ltN (by omega) (by omega)]; omega
  have e_fin : qv0 = nb := by omega
  have st31 : own_K p e below T28 m 102 #[rv ao, rv br, iv (Int32.ofNat (own_A K (own_g S Ch) qv0 0).length), iv (Int32.ofNat qv0), .unset, .unset] [.ref br] B0 := fun t kt => st29 t (by
   refine XS.icmpYes X28.here hx rfl (pc0 := 18) (pc' := 101) rfl (hb hby d11_18) rfl (flt hc30).2.1 (by decide) (by decide) ?_
   refine XS.aloadN X28.here hx rfl (hb hby d11_101) rfl rfl ?_
   exact kt)
  obtain ⟨fs, hr, hrun, hended, hW, hsame⟩ := X28.leave (v := (some (.ref br))) (fun h => by rw [Bd.returns] at h; cases h)
  subst hB0
  refine ⟨_, _, st31 _ ?_, hrun, hended, _, _, rfl, ?_, ⟨_, rfl⟩, hW, hsame.mono (by decide) (by decide)⟩
  ·exact retOut X28 hx Bd.returns rfl (Or.inr (Or.inr (Or.inr (Or.inr ⟨rfl, rfl, rfl⟩)))) (hb hby d11_102) hr
  ·show Q_rm_edges Z ao nb cap K S Ch cn lk ev h0 n0 _ T28.heap _
   rw [e28]
   exact ⟨br, rfl, N0, z23, f22, by rw [← e_fin, ← own_A0]; exact f26⟩
 ·obtain ⟨E_ao, F_bl, F_ct, F_lk, ⟨lp, F_lp⟩, bk, bl, bc, bp, bq, hge, nd, F_ke, F_sl, F_ch, F_pe, F_pc, A_bk, A_bl, A_bc, ⟨pf, A_bp, H_pf⟩, gq, A_bq⟩ := Nn
  have g_ao := hge ao (List.mem_of_getElem? (i := 0) rfl)
  have g_bk := hge bk (List.mem_of_getElem? (i := 1) rfl)
  have g_bl := hge bl (List.mem_of_getElem? (i := 2) rfl)
  have g_bc := hge bc (List.mem_of_getElem? (i := 3) rfl)
  have g_bp := hge bp (List.mem_of_getElem? (i := 4) rfl)
  have g_bq := hge bq (List.mem_of_getElem? (i := 5) rfl)
  have st32 : own_K p e below s₁ m 2 #[rv ao, .unset, .unset, .unset, .unset, .unset] [.ref ao, .int 2] B0 := fun t kt => st0 t (by
   refine XS.iconst X0.here hx rfl (hb hby d11_0) ?_
   refine XS.aloadN X0.here hx rfl (hb hby d11_1) rfl rfl ?_
   exact kt)
  obtain ⟨T33, X33, e33, ls33⟩ := getF X0 hx hZ hown (host := "") (Or.inl (own_w hw 28 rfl)) Via.refl e0 F_ct (g := (mkF m 2 #[rv ao, .unset, .unset, .unset, .unset, .unset] [.ref ao, .int 2])) rfl rfl (hb hby d11_2)
  have st34 := fun t kt => st32 t (ls33 t kt)
  have st35 : own_K p e below T33 m 6 #[rv ao, .unset, .unset, .unset, .unset, .unset] [(.int (Int32.ofNat (2 * cn)))] B0 := fun t kt => st34 t (by
   refine XS.imul X33.here hx rfl (hb hby d11_5) rfl ?_
   show own_At p e below T33 m 6 #[rv ao, .unset, .unset, .unset, .unset, .unset] [(.int ((2 : Int32) * (Int32.ofNat cn)))] _
   rw [show ((2 : Int32) * (Int32.ofNat cn)) = (Int32.ofNat (2 * cn)) from (own_mul2 cn)]
   exact kt)
  obtain ⟨T36, h36, c36, X36, e36, E36, A36, ls36⟩ := newP X33 hx hZ (own_w hw 6 rfl) e33 (g := (mkF m 6 #[rv ao, .unset, .unset, .unset, .unset, .unset] [(.int (Int32.ofNat (2 * cn)))])) rfl (hb hby d11_6) rfl (cc.2) (cap := 6) (by rw [cc.1]; omega) (by decide) (by decide) (by decide)
  obtain ⟨br, g36⟩ : ∃ z, z = h0.size := ⟨_, rfl⟩
  rw [← g36] at A36 ls36
  have ne_ao_br : ao ≠ br := Nat.ne_of_lt (Nat.lt_of_lt_of_le E_ao.lt (Nat.le_of_eq g36.symm))
  have ne_bk_br : bk ≠ br := Nat.ne_of_lt (Nat.lt_of_lt_of_le A_bk.lt (Nat.le_of_eq g36.symm))
  have ne_bl_br : bl ≠ br := Nat.ne_of_lt (Nat.lt_of_lt_of_le A_bl.lt (Nat.le_of_eq g36.symm))
  have ne_bc_br : bc ≠ br := Nat.ne_of_lt (Nat.lt_of_lt_of_le A_bc.lt (Nat.le_of_eq g36.symm))
  have ne_bp_br : bp ≠ br := Nat.ne_of_lt (Nat.lt_of_lt_of_le A_bp.lt (Nat.le_of_eq g36.symm))
  have ne_bq_br : bq ≠ br := Nat.ne_of_lt (Nat.lt_of_lt_of_le A_bq.lt (Nat.le_of_eq g36.symm))
  have g_br : n0 ≤ br := Nat.le_trans Z0 (Nat.le_of_eq g36.symm)
  have f37 := E_ao.ext E36
  have f38 := F_bl.ext E36
  have f42 := F_ke.ext E36
  have f43 := F_sl.ext E36
  have f44 := F_ch.ext E36
  have f47 := A_bk.ext E36
  have f48 := A_bl.ext E36
  have f49 := A_bc.ext E36
  have f53 := S0.ext E36
  have z54 := Nat.le_trans Z0 E36.1
  have f55 : own_Av Z h36 br .int (2 * cn) (fun _ => (.int 0)) := own_Av.new A36 (cc.2) (cc.1)
  have st56 := fun t kt => st35 t (ls36 t kt)
  have e_00 : (own_A K (own_g S Ch) qv0 0) = [] := by rw [hqv0]; rfl
  have f57 : own_Av Z h36 br .int (2 * cn) (fun q => .int ((own_A K (own_g S Ch) qv0 0).getD q 0)) := f55.congr (fun q hq => by rw [e_00]; rfl)
  have st58 : own_K p e below T36 m 15 #[rv ao, rv br, iv (Int32.ofNat (own_A K (own_g S Ch) qv0 0).length), iv (Int32.ofNat qv0), .unset, .unset] [.ref ao, .int (Int32.ofNat qv0)] B0 := fun t kt => st56 t (by
   refine XS.astoreN X36.here hx rfl (hb hby d11_8) rfl rfl (l' := #[rv ao, rv br, .unset, .unset, .unset, .unset]) rfl ?_
   refine XS.iconst X36.here hx rfl (hb hby d11_9) ?_
   refine XS.istoreN X36.here hx rfl (hb hby d11_10) rfl (l' := #[rv ao, rv br, iv 0, .unset, .unset, .unset]) rfl ?_
   refine XS.iconst X36.here hx rfl (hb hby d11_11) ?_
   refine XS.istoreN X36.here hx rfl (hb hby d11_12) rfl (l' := #[rv ao, rv br, iv 0, iv 0, .unset, .unset]) rfl ?_
   show own_At p e below T36 m 13 #[rv ao, rv br, iv 0, iv 0, .unset, .unset] [] _
   have e_l : (0 : Int32) = Int32.ofNat (own_A K (own_g S Ch) qv0 0).length := by rw [e_00]; rfl
   have e_q : (0 : Int32) = Int32.ofNat qv0 := by rw [hqv0]; rfl
   refine own_cast2 (p := p) (e := e) (below := below) (T := T36) (m := m) (pc := 13) (x0 := .val (.ref ao)) (x1 := .val (.ref br)) (x4 := .unset) (x5 := .unset) e_l e_q ?_
   refine XS.iloadN X36.here hx rfl (hb hby d11_13) rfl ?_
   refine XS.aloadN X36.here hx rfl (hb hby d11_14) rfl rfl ?_
   exact kt)
  obtain ⟨T59, X59, e59, ls59⟩ := getF X36 hx hZ hown (host := "") (Or.inl (own_w hw 45 rfl)) Via.refl e36 f38 (g := (mkF m 15 #[rv ao, rv br, iv (Int32.ofNat (own_A K (own_g S Ch) qv0 0).length), iv (Int32.ofNat qv0), .unset, .unset] [.ref ao, .int (Int32.ofNat qv0)])) rfl rfl (hb hby d11_15)
  have st60 := fun t kt => st58 t (ls59 t kt)
  have hc61 : (Int32.ofNat qv0) < (Int32.ofNat nb) := by rw [own_ltN (by omega) (by omega)]; omega
  have st62 : own_K p e below T59 m 22 #[rv ao, rv br, iv (Int32.ofNat (own_A K (own_g S Ch) qv0 0).length), iv (Int32.ofNat qv0), .unset, .unset] [.ref ao] B0 := fun t kt => st60 t (by
   refine XS.icmpNo X59.here hx rfl (hb hby d11_18) rfl (tlt hc61).2.1 ?_
   refine XS.aloadN X59.here hx rfl (hb hby d11_21) rfl rfl ?_
   exact kt)
  obtain ⟨T63, X63, e63, ls63⟩ := getF X59 hx hZ hown (host := "") (Or.inl (own_w hw 23 rfl)) Via.refl e59 f43 (g := (mkF m 22 #[rv ao, rv br, iv (Int32.ofNat (own_A K (own_g S Ch) qv0 0).length), iv (Int32.ofNat qv0), .unset, .unset] [.ref ao])) rfl rfl (hb hby d11_22)
  have st64 := fun t kt => st62 t (ls63 t kt)
  have st65 : own_K p e below T63 m 26 #[rv ao, rv br, iv (Int32.ofNat (own_A K (own_g S Ch) qv0 0).length), iv (Int32.ofNat qv0), .unset, .unset] [.int (Int32.ofNat qv0), .ref bl] B0 := fun t kt => st64 t (by
   refine XS.iloadN X63.here hx rfl (hb hby d11_25) rfl ?_
   exact kt)
  have ls66 := own_iaload X63 hx hZ e63 f48 (j := (Int32.ofNat qv0)) (i := qv0) (qn0.2) (qn0.1) (by omega) (v := (.int (Int32.ofNat (S qv0)))) (rfl) (g := (mkF m 26 #[rv ao, rv br, iv (Int32.ofNat (own_A K (own_g S Ch) qv0 0).length), iv (Int32.ofNat qv0), .unset, .unset] [.int (Int32.ofNat qv0), .ref bl])) rfl rfl (hb hby d11_26)
  have st67 := fun t kt => st65 t (ls66 t kt)
  have st68 : own_K p e below T63 m 35 #[rv ao, rv br, iv (Int32.ofNat (own_A K (own_g S Ch) qv0 0).length), iv (Int32.ofNat qv0), iv (Int32.ofNat (64 * S qv0)), iv (Int32.ofNat 0)] [] B0 := fun t kt => st67 t (by
   refine XS.bipush X63.here hx rfl (hb hby d11_27) ?_
   refine XS.ishl X63.here hx rfl (hb hby d11_29) rfl ?_
   show own_At p e below T63 m 30 #[rv ao, rv br, iv (Int32.ofNat (own_A K (own_g S Ch) qv0 0).length), iv (Int32.ofNat qv0), .unset, .unset] [(.int ((Int32.ofNat (S qv0)) <<< ((6 : Int32) &&& 31)))] _
   rw [show ((Int32.ofNat (S qv0)) <<< ((6 : Int32) &&& 31)) = (Int32.ofNat (64 * S qv0)) from (own_shl6 (S qv0) (by have := hS qv0 (by omega); omega))]
   refine XS.istore X63.here hx rfl (hb hby d11_30) rfl (l' := #[rv ao, rv br, iv (Int32.ofNat (own_A K (own_g S Ch) qv0 0).length), iv (Int32.ofNat qv0), iv (Int32.ofNat (64 * S qv0)), .unset]) rfl ?_
   refine XS.iconst X63.here hx rfl (hb hby d11_32) ?_
   refine XS.istore X63.here hx rfl (hb hby d11_33) rfl (l' := #[rv ao, rv br, iv (Int32.ofNat (own_A K (own_g S Ch) qv0 0).length), iv (Int32.ofNat qv0), iv (Int32.ofNat (64 * S qv0)), iv 0]) rfl ?_
   show own_At p e below T63 m 35 #[rv ao, rv br, iv (Int32.ofNat (own_A K (own_g S Ch) qv0 0).length), iv (Int32.ofNat qv0), iv (Int32.ofNat (64 * S qv0)), iv 0] [] _
   rw [show (0 : Int32) = (Int32.ofNat 0) from (rfl)]
   exact kt)
  obtain ⟨T69, L69, h69, X69, e69, N69, Z69, ⟨Sm69, A69⟩, ls69⟩ := own_loopI e64 nb cap cn qv0 K S Ch ao br bk bc 1 6 hx hZ hw hby hml hown he64 (by omega) hnc hc4 (hS qv0 (by omega)) hlen hcn ne_ao_br ne_bk_br ne_bc_br g_br e64 0 (Nat.zero_add _) _ _ _ X63 e63 N0 z54 ⟨f37, f42, f44, f47, f49, f57⟩
  have np_ao : ¬ (ao = br) := ne_ao_br
  have np_bk : ¬ (bk = br) := ne_bk_br
  have np_bl : ¬ (bl = br) := ne_bl_br
  have np_bc : ¬ (bc = br) := ne_bc_br
  have np_bp : ¬ (bp = br) := ne_bp_br
  have np_bq : ¬ (bq = br) := ne_bq_br
  have f71 := own_FldSm f38 Sm69 (np_ao)
  have f85 := f53.trans (own_Sm.mono Sm69 (fun x hx => by subst hx; exact g_br))
  have st86 := fun t kt => st68 t (ls69 t kt)
  have e_v0 : qv0 + 1 = qv1 := by omega
  have e_n0 : (own_A K (own_g S Ch) qv0 e64) = (own_A K (own_g S Ch) qv1 0) := by rw [he64, ← e_v0]; exact own_A_next
  have f87 : own_Av Z h69 br .int (2 * cn) (fun q => .int ((own_A K (own_g S Ch) qv1 0).getD q 0)) := by rw [← e_n0]; exact A69
  have st88 : own_K p e below T69 m 15 #[rv ao, rv br, iv (Int32.ofNat (own_A K (own_g S Ch) qv1 0).length), iv (Int32.ofNat qv1), iv (Int32.ofNat (64 * S qv0)), iv (Int32.ofNat e64)] [.ref ao, .int (Int32.ofNat qv1)] B0 := fun t kt => st86 t (by
   show own_At p e below T69 m 95 #[rv ao, rv br, iv (Int32.ofNat (own_A K (own_g S Ch) qv0 e64).length), iv (Int32.ofNat qv0), iv (Int32.ofNat (64 * S qv0)), iv (Int32.ofNat e64)] [] _
   rw [show (Int32.ofNat (own_A K (own_g S Ch) qv0 e64).length) = (Int32.ofNat (own_A K (own_g S Ch) qv1 0).length) from (by rw [e_n0])]
   refine XS.iinc X69.here hx rfl (hb hby d11_95) rfl (l' := #[rv ao, rv br, iv (Int32.ofNat (own_A K (own_g S Ch) qv1 0).length), iv ((Int32.ofNat qv0) + (1 : Int32)), iv (Int32.ofNat (64 * S qv0)), iv (Int32.ofNat e64)]) rfl ?_
   refine XS.goto X69.here hx rfl (pc0 := 98) (pc' := 13) rfl (hb hby d11_98) (by decide) (by decide) ?_
   show own_At p e below T69 m 13 #[rv ao, rv br, iv (Int32.ofNat (own_A K (own_g S Ch) qv1 0).length), iv ((Int32.ofNat qv0) + (1 : Int32)), iv (Int32.ofNat (64 * S qv0)), iv (Int32.ofNat e64)] [] _
   rw [show ((Int32.ofNat qv0) + (1 : Int32)) = (Int32.ofNat qv1) from (by rw [own_up1, e_v0])]
   refine XS.iloadN X69.here hx rfl (hb hby d11_13) rfl ?_
   refine XS.aloadN X69.here hx rfl (hb hby d11_14) rfl rfl ?_
   exact kt)
  obtain ⟨T89, X89, e89, ls89⟩ := getF X69 hx hZ hown (host := "") (Or.inl (own_w hw 45 rfl)) Via.refl e69 f71 (g := (mkF m 15 #[rv ao, rv br, iv (Int32.ofNat (own_A K (own_g S Ch) qv1 0).length), iv (Int32.ofNat qv1), iv (Int32.ofNat (64 * S qv0)), iv (Int32.ofNat e64)] [.ref ao, .int (Int32.ofNat qv1)])) rfl rfl (hb hby d11_15)
  have st90 := fun t kt => st88 t (ls89 t kt)
  have hc91 : ¬ ((Int32.ofNat qv1) < (Int32.ofNat nb)) := by rw [own_ltN (by omega) (by omega)]; omega
  have e_fin : qv1 = nb := by omega
  have st92 : own_K p e below T89 m 102 #[rv ao, rv br, iv (Int32.ofNat (own_A K (own_g S Ch) qv1 0).length), iv (Int32.ofNat qv1), iv (Int32.ofNat (64 * S qv0)), iv (Int32.ofNat e64)] [.ref br] B0 := fun t kt => st90 t (by
   refine XS.icmpYes X89.here hx rfl (pc0 := 18) (pc' := 101) rfl (hb hby d11_18) rfl (flt hc91).2.1 (by decide) (by decide) ?_
   refine XS.aloadN X89.here hx rfl (hb hby d11_101) rfl rfl ?_
   exact kt)
  obtain ⟨fs, hr, hrun, hended, hW, hsame⟩ := X89.leave (v := (some (.ref br))) (fun h => by rw [Bd.returns] at h; cases h)
  subst hB0
  refine ⟨_, _, st92 _ ?_, hrun, hended, _, _, rfl, ?_, ⟨_, rfl⟩, hW, hsame.mono (by decide) (by decide)⟩
  ·exact retOut X89 hx Bd.returns rfl (Or.inr (Or.inr (Or.inr (Or.inr ⟨rfl, rfl, rfl⟩)))) (hb hby d11_102) hr
  ·show Q_rm_edges Z ao nb cap K S Ch cn lk ev h0 n0 _ T89.heap _
   rw [e89]
   exact ⟨br, rfl, N69, Z69, f85, by rw [← e_fin, ← own_A0]; exact f87⟩
 ·obtain ⟨E_ao, F_bl, F_ct, F_lk, ⟨lp, F_lp⟩, bk, bl, bc, bp, bq, hge, nd, F_ke, F_sl, F_ch, F_pe, F_pc, A_bk, A_bl, A_bc, ⟨pf, A_bp, H_pf⟩, gq, A_bq⟩ := Nn
  have g_ao := hge ao (List.mem_of_getElem? (i := 0) rfl)
  have g_bk := hge bk (List.mem_of_getElem? (i := 1) rfl)
  have g_bl := hge bl (List.mem_of_getElem? (i := 2) rfl)
  have g_bc := hge bc (List.mem_of_getElem? (i := 3) rfl)
  have g_bp := hge bp (List.mem_of_getElem? (i := 4) rfl)
  have g_bq := hge bq (List.mem_of_getElem? (i := 5) rfl)
  have st93 : own_K p e below s₁ m 2 #[rv ao, .unset, .unset, .unset, .unset, .unset] [.ref ao, .int 2] B0 := fun t kt => st0 t (by
   refine XS.iconst X0.here hx rfl (hb hby d11_0) ?_
   refine XS.aloadN X0.here hx rfl (hb hby d11_1) rfl rfl ?_
   exact kt)
  obtain ⟨T94, X94, e94, ls94⟩ := getF X0 hx hZ hown (host := "") (Or.inl (own_w hw 28 rfl)) Via.refl e0 F_ct (g := (mkF m 2 #[rv ao, .unset, .unset, .unset, .unset, .unset] [.ref ao, .int 2])) rfl rfl (hb hby d11_2)
  have st95 := fun t kt => st93 t (ls94 t kt)
  have st96 : own_K p e below T94 m 6 #[rv ao, .unset, .unset, .unset, .unset, .unset] [(.int (Int32.ofNat (2 * cn)))] B0 := fun t kt => st95 t (by
   refine XS.imul X94.here hx rfl (hb hby d11_5) rfl ?_
   show own_At p e below T94 m 6 #[rv ao, .unset, .unset, .unset, .unset, .unset] [(.int ((2 : Int32) * (Int32.ofNat cn)))] _
   rw [show ((2 : Int32) * (Int32.ofNat cn)) = (Int32.ofNat (2 * cn)) from (own_mul2 cn)]
   exact kt)
  obtain ⟨T97, h97, c97, X97, e97, E97, A97, ls97⟩ := newP X94 hx hZ (own_w hw 6 rfl) e94 (g := (mkF m 6 #[rv ao, .unset, .unset, .unset, .unset, .unset] [(.int (Int32.ofNat (2 * cn)))])) rfl (hb hby d11_6) rfl (cc.2) (cap := 6) (by rw [cc.1]; omega) (by decide) (by decide) (by decide)
  obtain ⟨br, g97⟩ : ∃ z, z = h0.size := ⟨_, rfl⟩
  rw [← g97] at A97 ls97
  have ne_ao_br : ao ≠ br := Nat.ne_of_lt (Nat.lt_of_lt_of_le E_ao.lt (Nat.le_of_eq g97.symm))
  have ne_bk_br : bk ≠ br := Nat.ne_of_lt (Nat.lt_of_lt_of_le A_bk.lt (Nat.le_of_eq g97.symm))
  have ne_bl_br : bl ≠ br := Nat.ne_of_lt (Nat.lt_of_lt_of_le A_bl.lt (Nat.le_of_eq g97.symm))
  have ne_bc_br : bc ≠ br := Nat.ne_of_lt (Nat.lt_of_lt_of_le A_bc.lt (Nat.le_of_eq g97.symm))
  have ne_bp_br : bp ≠ br := Nat.ne_of_lt (Nat.lt_of_lt_of_le A_bp.lt (Nat.le_of_eq g97.symm))
  have ne_bq_br : bq ≠ br := Nat.ne_of_lt (Nat.lt_of_lt_of_le A_bq.lt (Nat.le_of_eq g97.symm))
  have g_br : n0 ≤ br := Nat.le_trans Z0 (Nat.le_of_eq g97.symm)
  have f98 := E_ao.ext E97
  have f99 := F_bl.ext E97
  have f103 := F_ke.ext E97
  have f104 := F_sl.ext E97
  have f105 := F_ch.ext E97
  have f108 := A_bk.ext E97
  have f109 := A_bl.ext E97
  have f110 := A_bc.ext E97
  have f114 := S0.ext E97
  have z115 := Nat.le_trans Z0 E97.1
  have f116 : own_Av Z h97 br .int (2 * cn) (fun _ => (.int 0)) := own_Av.new A97 (cc.2) (cc.1)
  have st117 := fun t kt => st96 t (ls97 t kt)
  have e_00 : (own_A K (own_g S Ch) qv0 0) = [] := by rw [hqv0]; rfl
  have f118 : own_Av Z h97 br .int (2 * cn) (fun q => .int ((own_A K (own_g S Ch) qv0 0).getD q 0)) := f116.congr (fun q hq => by rw [e_00]; rfl)
  have st119 : own_K p e below T97 m 15 #[rv ao, rv br, iv (Int32.ofNat (own_A K (own_g S Ch) qv0 0).length), iv (Int32.ofNat qv0), .unset, .unset] [.ref ao, .int (Int32.ofNat qv0)] B0 := fun t kt => st117 t (by
   refine XS.astoreN X97.here hx rfl (hb hby d11_8) rfl rfl (l' := #[rv ao, rv br, .unset, .unset, .unset, .unset]) rfl ?_
   refine XS.iconst X97.here hx rfl (hb hby d11_9) ?_
   refine XS.istoreN X97.here hx rfl (hb hby d11_10) rfl (l' := #[rv ao, rv br, iv 0, .unset, .unset, .unset]) rfl ?_
   refine XS.iconst X97.here hx rfl (hb hby d11_11) ?_
   refine XS.istoreN X97.here hx rfl (hb hby d11_12) rfl (l' := #[rv ao, rv br, iv 0, iv 0, .unset, .unset]) rfl ?_
   show own_At p e below T97 m 13 #[rv ao, rv br, iv 0, iv 0, .unset, .unset] [] _
   have e_l : (0 : Int32) = Int32.ofNat (own_A K (own_g S Ch) qv0 0).length := by rw [e_00]; rfl
   have e_q : (0 : Int32) = Int32.ofNat qv0 := by rw [hqv0]; rfl
   refine own_cast2 (p := p) (e := e) (below := below) (T := T97) (m := m) (pc := 13) (x0 := .val (.ref ao)) (x1 := .val (.ref br)) (x4 := .unset) (x5 := .unset) e_l e_q ?_
   refine XS.iloadN X97.here hx rfl (hb hby d11_13) rfl ?_
   refine XS.aloadN X97.here hx rfl (hb hby d11_14) rfl rfl ?_
   exact kt)
  obtain ⟨T120, X120, e120, ls120⟩ := getF X97 hx hZ hown (host := "") (Or.inl (own_w hw 45 rfl)) Via.refl e97 f99 (g := (mkF m 15 #[rv ao, rv br, iv (Int32.ofNat (own_A K (own_g S Ch) qv0 0).length), iv (Int32.ofNat qv0), .unset, .unset] [.ref ao, .int (Int32.ofNat qv0)])) rfl rfl (hb hby d11_15)
  have st121 := fun t kt => st119 t (ls120 t kt)
  have hc122 : (Int32.ofNat qv0) < (Int32.ofNat nb) := by rw [own_ltN (by omega) (by omega)]; omega
  have st123 : own_K p e below T120 m 22 #[rv ao, rv br, iv (Int32.ofNat (own_A K (own_g S Ch) qv0 0).length), iv (Int32.ofNat qv0), .unset, .unset] [.ref ao] B0 := fun t kt => st121 t (by
   refine XS.icmpNo X120.here hx rfl (hb hby d11_18) rfl (tlt hc122).2.1 ?_
   refine XS.aloadN X120.here hx rfl (hb hby d11_21) rfl rfl ?_
   exact kt)
  obtain ⟨T124, X124, e124, ls124⟩ := getF X120 hx hZ hown (host := "") (Or.inl (own_w hw 23 rfl)) Via.refl e120 f104 (g := (mkF m 22 #[rv ao, rv br, iv (Int32.ofNat (own_A K (own_g S Ch) qv0 0).length), iv (Int32.ofNat qv0), .unset, .unset] [.ref ao])) rfl rfl (hb hby d11_22)
  have st125 := fun t kt => st123 t (ls124 t kt)
  have st126 : own_K p e below T124 m 26 #[rv ao, rv br, iv (Int32.ofNat (own_A K (own_g S Ch) qv0 0).length), iv (Int32.ofNat qv0), .unset, .unset] [.int (Int32.ofNat qv0), .ref bl] B0 := fun t kt => st125 t (by
   refine XS.iloadN X124.here hx rfl (hb hby d11_25) rfl ?_
   exact kt)
  have ls127 := own_iaload X124 hx hZ e124 f109 (j := (Int32.ofNat qv0)) (i := qv0) (qn0.2) (qn0.1) (by omega) (v := (.int (Int32.ofNat (S qv0)))) (rfl) (g := (mkF m 26 #[rv ao, rv br, iv (Int32.ofNat (own_A K (own_g S Ch) qv0 0).length), iv (Int32.ofNat qv0), .unset, .unset] [.int (Int32.ofNat qv0), .ref bl])) rfl rfl (hb hby d11_26)
  have st128 := fun t kt => st126 t (ls127 t kt)
  have st129 : own_K p e below T124 m 35 #[rv ao, rv br, iv (Int32.ofNat (own_A K (own_g S Ch) qv0 0).length), iv (Int32.ofNat qv0), iv (Int32.ofNat (64 * S qv0)), iv (Int32.ofNat 0)] [] B0 := fun t kt => st128 t (by
   refine XS.bipush X124.here hx rfl (hb hby d11_27) ?_
   refine XS.ishl X124.here hx rfl (hb hby d11_29) rfl ?_
   show own_At p e below T124 m 30 #[rv ao, rv br, iv (Int32.ofNat (own_A K (own_g S Ch) qv0 0).length), iv (Int32.ofNat qv0), .unset, .unset] [(.int ((Int32.ofNat (S qv0)) <<< ((6 : Int32) &&& 31)))] _
   rw [show ((Int32.ofNat (S qv0)) <<< ((6 : Int32) &&& 31)) = (Int32.ofNat (64 * S qv0)) from (own_shl6 (S qv0) (by have := hS qv0 (by omega); omega))]
   refine XS.istore X124.here hx rfl (hb hby d11_30) rfl (l' := #[rv ao, rv br, iv (Int32.ofNat (own_A K (own_g S Ch) qv0 0).length), iv (Int32.ofNat qv0), iv (Int32.ofNat (64 * S qv0)), .unset]) rfl ?_
   refine XS.iconst X124.here hx rfl (hb hby d11_32) ?_
   refine XS.istore X124.here hx rfl (hb hby d11_33) rfl (l' := #[rv ao, rv br, iv (Int32.ofNat (own_A K (own_g S Ch) qv0 0).length), iv (Int32.ofNat qv0), iv (Int32.ofNat (64 * S qv0)), iv 0]) rfl ?_
   show own_At p e below T124 m 35 #[rv ao, rv br, iv (Int32.ofNat (own_A K (own_g S Ch) qv0 0).length), iv (Int32.ofNat qv0), iv (Int32.ofNat (64 * S qv0)), iv 0] [] _
   rw [show (0 : Int32) = (Int32.ofNat 0) from (rfl)]
   exact kt)
  obtain ⟨T130, L130, h130, X130, e130, N130, Z130, ⟨Sm130, A130⟩, ls130⟩ := own_loopI e64 nb cap cn qv0 K S Ch ao br bk bc 1 6 hx hZ hw hby hml hown he64 (by omega) hnc hc4 (hS qv0 (by omega)) hlen hcn ne_ao_br ne_bk_br ne_bc_br g_br e64 0 (Nat.zero_add _) _ _ _ X124 e124 N0 z115 ⟨f98, f103, f105, f108, f110, f118⟩
  have np_ao : ¬ (ao = br) := ne_ao_br
  have np_bk : ¬ (bk = br) := ne_bk_br
  have np_bl : ¬ (bl = br) := ne_bl_br
  have np_bc : ¬ (bc = br) := ne_bc_br
  have np_bp : ¬ (bp = br) := ne_bp_br
  have np_bq : ¬ (bq = br) := ne_bq_br
  have f131 := own_ExaSm f98 Sm130 (np_ao)
  have f132 := own_FldSm f99 Sm130 (np_ao)
  have f136 := own_FldSm f103 Sm130 (np_ao)
  have f137 := own_FldSm f104 Sm130 (np_ao)
  have f138 := own_FldSm f105 Sm130 (np_ao)
  have f141 := f108.sm Sm130 (np_bk)
  have f142 := f109.sm Sm130 (np_bl)
  have f143 := f110.sm Sm130 (np_bc)
  have f146 := f114.trans (own_Sm.mono Sm130 (fun x hx => by subst hx; exact g_br))
  have st147 := fun t kt => st129 t (ls130 t kt)
  have e_v0 : qv0 + 1 = qv1 := by omega
  have e_n0 : (own_A K (own_g S Ch) qv0 e64) = (own_A K (own_g S Ch) qv1 0) := by rw [he64, ← e_v0]; exact own_A_next
  have f148 : own_Av Z h130 br .int (2 * cn) (fun q => .int ((own_A K (own_g S Ch) qv1 0).getD q 0)) := by rw [← e_n0]; exact A130
  have st149 : own_K p e below T130 m 15 #[rv ao, rv br, iv (Int32.ofNat (own_A K (own_g S Ch) qv1 0).length), iv (Int32.ofNat qv1), iv (Int32.ofNat (64 * S qv0)), iv (Int32.ofNat e64)] [.ref ao, .int (Int32.ofNat qv1)] B0 := fun t kt => st147 t (by
   show own_At p e below T130 m 95 #[rv ao, rv br, iv (Int32.ofNat (own_A K (own_g S Ch) qv0 e64).length), iv (Int32.ofNat qv0), iv (Int32.ofNat (64 * S qv0)), iv (Int32.ofNat e64)] [] _
   rw [show (Int32.ofNat (own_A K (own_g S Ch) qv0 e64).length) = (Int32.ofNat (own_A K (own_g S Ch) qv1 0).length) from (by rw [e_n0])]
   refine XS.iinc X130.here hx rfl (hb hby d11_95) rfl (l' := #[rv ao, rv br, iv (Int32.ofNat (own_A K (own_g S Ch) qv1 0).length), iv ((Int32.ofNat qv0) + (1 : Int32)), iv (Int32.ofNat (64 * S qv0)), iv (Int32.ofNat e64)]) rfl ?_
   refine XS.goto X130.here hx rfl (pc0 := 98) (pc' := 13) rfl (hb hby d11_98) (by decide) (by decide) ?_
   show own_At p e below T130 m 13 #[rv ao, rv br, iv (Int32.ofNat (own_A K (own_g S Ch) qv1 0).length), iv ((Int32.ofNat qv0) + (1 : Int32)), iv (Int32.ofNat (64 * S qv0)), iv (Int32.ofNat e64)] [] _
   rw [show ((Int32.ofNat qv0) + (1 : Int32)) = (Int32.ofNat qv1) from (by rw [own_up1, e_v0])]
   refine XS.iloadN X130.here hx rfl (hb hby d11_13) rfl ?_
   refine XS.aloadN X130.here hx rfl (hb hby d11_14) rfl rfl ?_
   exact kt)
  obtain ⟨T150, X150, e150, ls150⟩ := getF X130 hx hZ hown (host := "") (Or.inl (own_w hw 45 rfl)) Via.refl e130 f132 (g := (mkF m 15 #[rv ao, rv br, iv (Int32.ofNat (own_A K (own_g S Ch) qv1 0).length), iv (Int32.ofNat qv1), iv (Int32.ofNat (64 * S qv0)), iv (Int32.ofNat e64)] [.ref ao, .int (Int32.ofNat qv1)])) rfl rfl (hb hby d11_15)
  have st151 := fun t kt => st149 t (ls150 t kt)
  have hc152 : (Int32.ofNat qv1) < (Int32.ofNat nb) := by rw [own_ltN (by omega) (by omega)]; omega
  have st153 : own_K p e below T150 m 22 #[rv ao, rv br, iv (Int32.ofNat (own_A K (own_g S Ch) qv1 0).length), iv (Int32.ofNat qv1), iv (Int32.ofNat (64 * S qv0)), iv (Int32.ofNat e64)] [.ref ao] B0 := fun t kt => st151 t (by
   refine XS.icmpNo X150.here hx rfl (hb hby d11_18) rfl (tlt hc152).2.1 ?_
   refine XS.aloadN X150.here hx rfl (hb hby d11_21) rfl rfl ?_
   exact kt)
  obtain ⟨T154, X154, e154, ls154⟩ := getF X150 hx hZ hown (host := "") (Or.inl (own_w hw 23 rfl)) Via.refl e150 f137 (g := (mkF m 22 #[rv ao, rv br, iv (Int32.ofNat (own_A K (own_g S Ch) qv1 0).length), iv (Int32.ofNat qv1), iv (Int32.ofNat (64 * S qv0)), iv (Int32.ofNat e64)] [.ref ao])) rfl rfl (hb hby d11_22)
  have st155 := fun t kt => st153 t (ls154 t kt)
  have st156 : own_K p e below T154 m 26 #[rv ao, rv br, iv (Int32.ofNat (own_A K (own_g S Ch) qv1 0).length), iv (Int32.ofNat qv1), iv (Int32.ofNat (64 * S qv0)), iv (Int32.ofNat e64)] [.int (Int32.ofNat qv1), .ref bl] B0 := fun t kt => st155 t (by
   refine XS.iloadN X154.here hx rfl (hb hby d11_25) rfl ?_
   exact kt)
  have ls157 := own_iaload X154 hx hZ e154 f142 (j := (Int32.ofNat qv1)) (i := qv1) (qn1.2) (qn1.1) (by omega) (v := (.int (Int32.ofNat (S qv1)))) (rfl) (g := (mkF m 26 #[rv ao, rv br, iv (Int32.ofNat (own_A K (own_g S Ch) qv1 0).length), iv (Int32.ofNat qv1), iv (Int32.ofNat (64 * S qv0)), iv (Int32.ofNat e64)] [.int (Int32.ofNat qv1), .ref bl])) rfl rfl (hb hby d11_26)
  have st158 := fun t kt => st156 t (ls157 t kt)
  have st159 : own_K p e below T154 m 35 #[rv ao, rv br, iv (Int32.ofNat (own_A K (own_g S Ch) qv1 0).length), iv (Int32.ofNat qv1), iv (Int32.ofNat (64 * S qv1)), iv (Int32.ofNat 0)] [] B0 := fun t kt => st158 t (by
   refine XS.bipush X154.here hx rfl (hb hby d11_27) ?_
   refine XS.ishl X154.here hx rfl (hb hby d11_29) rfl ?_
   show own_At p e below T154 m 30 #[rv ao, rv br, iv (Int32.ofNat (own_A K (own_g S Ch) qv1 0).length), iv (Int32.ofNat qv1), iv (Int32.ofNat (64 * S qv0)), iv (Int32.ofNat e64)] [(.int ((Int32.ofNat (S qv1)) <<< ((6 : Int32) &&& 31)))] _
   rw [show ((Int32.ofNat (S qv1)) <<< ((6 : Int32) &&& 31)) = (Int32.ofNat (64 * S qv1)) from (own_shl6 (S qv1) (by have := hS qv1 (by omega); omega))]
   refine XS.istore X154.here hx rfl (hb hby d11_30) rfl (l' := #[rv ao, rv br, iv (Int32.ofNat (own_A K (own_g S Ch) qv1 0).length), iv (Int32.ofNat qv1), iv (Int32.ofNat (64 * S qv1)), iv (Int32.ofNat e64)]) rfl ?_
   refine XS.iconst X154.here hx rfl (hb hby d11_32) ?_
   refine XS.istore X154.here hx rfl (hb hby d11_33) rfl (l' := #[rv ao, rv br, iv (Int32.ofNat (own_A K (own_g S Ch) qv1 0).length), iv (Int32.ofNat qv1), iv (Int32.ofNat (64 * S qv1)), iv 0]) rfl ?_
   show own_At p e below T154 m 35 #[rv ao, rv br, iv (Int32.ofNat (own_A K (own_g S Ch) qv1 0).length), iv (Int32.ofNat qv1), iv (Int32.ofNat (64 * S qv1)), iv 0] [] _
   rw [show (0 : Int32) = (Int32.ofNat 0) from (rfl)]
   exact kt)
  obtain ⟨T160, L160, h160, X160, e160, N160, Z160, ⟨Sm160, A160⟩, ls160⟩ := own_loopI e64 nb cap cn qv1 K S Ch ao br bk bc 1 6 hx hZ hw hby hml hown he64 (by omega) hnc hc4 (hS qv1 (by omega)) hlen hcn ne_ao_br ne_bk_br ne_bc_br g_br e64 0 (Nat.zero_add _) _ _ _ X154 e154 N130 Z130 ⟨f131, f136, f138, f141, f143, f148⟩
  have f162 := own_FldSm f132 Sm160 (np_ao)
  have f176 := f146.trans (own_Sm.mono Sm160 (fun x hx => by subst hx; exact g_br))
  have st177 := fun t kt => st159 t (ls160 t kt)
  have e_v1 : qv1 + 1 = qv2 := by omega
  have e_n1 : (own_A K (own_g S Ch) qv1 e64) = (own_A K (own_g S Ch) qv2 0) := by rw [he64, ← e_v1]; exact own_A_next
  have f178 : own_Av Z h160 br .int (2 * cn) (fun q => .int ((own_A K (own_g S Ch) qv2 0).getD q 0)) := by rw [← e_n1]; exact A160
  have st179 : own_K p e below T160 m 15 #[rv ao, rv br, iv (Int32.ofNat (own_A K (own_g S Ch) qv2 0).length), iv (Int32.ofNat qv2), iv (Int32.ofNat (64 * S qv1)), iv (Int32.ofNat e64)] [.ref ao, .int (Int32.ofNat qv2)] B0 := fun t kt => st177 t (by
   show own_At p e below T160 m 95 #[rv ao, rv br, iv (Int32.ofNat (own_A K (own_g S Ch) qv1 e64).length), iv (Int32.ofNat qv1), iv (Int32.ofNat (64 * S qv1)), iv (Int32.ofNat e64)] [] _
   rw [show (Int32.ofNat (own_A K (own_g S Ch) qv1 e64).length) = (Int32.ofNat (own_A K (own_g S Ch) qv2 0).length) from (by rw [e_n1])]
   refine XS.iinc X160.here hx rfl (hb hby d11_95) rfl (l' := #[rv ao, rv br, iv (Int32.ofNat (own_A K (own_g S Ch) qv2 0).length), iv ((Int32.ofNat qv1) + (1 : Int32)), iv (Int32.ofNat (64 * S qv1)), iv (Int32.ofNat e64)]) rfl ?_
   refine XS.goto X160.here hx rfl (pc0 := 98) (pc' := 13) rfl (hb hby d11_98) (by decide) (by decide) ?_
   show own_At p e below T160 m 13 #[rv ao, rv br, iv (Int32.ofNat (own_A K (own_g S Ch) qv2 0).length), iv ((Int32.ofNat qv1) + (1 : Int32)), iv (Int32.ofNat (64 * S qv1)), iv (Int32.ofNat e64)] [] _
   rw [show ((Int32.ofNat qv1) + (1 : Int32)) = (Int32.ofNat qv2) from (by rw [own_up1, e_v1])]
   refine XS.iloadN X160.here hx rfl (hb hby d11_13) rfl ?_
   refine XS.aloadN X160.here hx rfl (hb hby d11_14) rfl rfl ?_
   exact kt)
  obtain ⟨T180, X180, e180, ls180⟩ := getF X160 hx hZ hown (host := "") (Or.inl (own_w hw 45 rfl)) Via.refl e160 f162 (g := (mkF m 15 #[rv ao, rv br, iv (Int32.ofNat (own_A K (own_g S Ch) qv2 0).length), iv (Int32.ofNat qv2), iv (Int32.ofNat (64 * S qv1)), iv (Int32.ofNat e64)] [.ref ao, .int (Int32.ofNat qv2)])) rfl rfl (hb hby d11_15)
  have st181 := fun t kt => st179 t (ls180 t kt)
  have hc182 : ¬ ((Int32.ofNat qv2) < (Int32.ofNat nb)) := by rw [own_ltN (by omega) (by omega)]; omega
  have e_fin : qv2 = nb := by omega
  have st183 : own_K p e below T180 m 102 #[rv ao, rv br, iv (Int32.ofNat (own_A K (own_g S Ch) qv2 0).length), iv (Int32.ofNat qv2), iv (Int32.ofNat (64 * S qv1)), iv (Int32.ofNat e64)] [.ref br] B0 := fun t kt => st181 t (by
   refine XS.icmpYes X180.here hx rfl (pc0 := 18) (pc' := 101) rfl (hb hby d11_18) rfl (flt hc182).2.1 (by decide) (by decide) ?_
   refine XS.aloadN X180.here hx rfl (hb hby d11_101) rfl rfl ?_
   exact kt)
  obtain ⟨fs, hr, hrun, hended, hW, hsame⟩ := X180.leave (v := (some (.ref br))) (fun h => by rw [Bd.returns] at h; cases h)
  subst hB0
  refine ⟨_, _, st183 _ ?_, hrun, hended, _, _, rfl, ?_, ⟨_, rfl⟩, hW, hsame.mono (by decide) (by decide)⟩
  ·exact retOut X180 hx Bd.returns rfl (Or.inr (Or.inr (Or.inr (Or.inr ⟨rfl, rfl, rfl⟩)))) (hb hby d11_102) hr
  ·show Q_rm_edges Z ao nb cap K S Ch cn lk ev h0 n0 _ T180.heap _
   rw [e180]
   exact ⟨br, rfl, N160, Z160, f176, by rw [← e_fin, ← own_A0]; exact f178⟩
 ·obtain ⟨E_ao, F_bl, F_ct, F_lk, ⟨lp, F_lp⟩, bk, bl, bc, bp, bq, hge, nd, F_ke, F_sl, F_ch, F_pe, F_pc, A_bk, A_bl, A_bc, ⟨pf, A_bp, H_pf⟩, gq, A_bq⟩ := Nn
  have g_ao := hge ao (List.mem_of_getElem? (i := 0) rfl)
  have g_bk := hge bk (List.mem_of_getElem? (i := 1) rfl)
  have g_bl := hge bl (List.mem_of_getElem? (i := 2) rfl)
  have g_bc := hge bc (List.mem_of_getElem? (i := 3) rfl)
  have g_bp := hge bp (List.mem_of_getElem? (i := 4) rfl)
  have g_bq := hge bq (List.mem_of_getElem? (i := 5) rfl)
  have st184 : own_K p e below s₁ m 2 #[rv ao, .unset, .unset, .unset, .unset, .unset] [.ref ao, .int 2] B0 := fun t kt => st0 t (by
   refine XS.iconst X0.here hx rfl (hb hby d11_0) ?_
   refine XS.aloadN X0.here hx rfl (hb hby d11_1) rfl rfl ?_
   exact kt)
  obtain ⟨T185, X185, e185, ls185⟩ := getF X0 hx hZ hown (host := "") (Or.inl (own_w hw 28 rfl)) Via.refl e0 F_ct (g := (mkF m 2 #[rv ao, .unset, .unset, .unset, .unset, .unset] [.ref ao, .int 2])) rfl rfl (hb hby d11_2)
  have st186 := fun t kt => st184 t (ls185 t kt)
  have st187 : own_K p e below T185 m 6 #[rv ao, .unset, .unset, .unset, .unset, .unset] [(.int (Int32.ofNat (2 * cn)))] B0 := fun t kt => st186 t (by
   refine XS.imul X185.here hx rfl (hb hby d11_5) rfl ?_
   show own_At p e below T185 m 6 #[rv ao, .unset, .unset, .unset, .unset, .unset] [(.int ((2 : Int32) * (Int32.ofNat cn)))] _
   rw [show ((2 : Int32) * (Int32.ofNat cn)) = (Int32.ofNat (2 * cn)) from (own_mul2 cn)]
   exact kt)
  obtain ⟨T188, h188, c188, X188, e188, E188, A188, ls188⟩ := newP X185 hx hZ (own_w hw 6 rfl) e185 (g := (mkF m 6 #[rv ao, .unset, .unset, .unset, .unset, .unset] [(.int (Int32.ofNat (2 * cn)))])) rfl (hb hby d11_6) rfl (cc.2) (cap := 6) (by rw [cc.1]; omega) (by decide) (by decide) (by decide)
  obtain ⟨br, g188⟩ : ∃ z, z = h0.size := ⟨_, rfl⟩
  rw [← g188] at A188 ls188
  have ne_ao_br : ao ≠ br := Nat.ne_of_lt (Nat.lt_of_lt_of_le E_ao.lt (Nat.le_of_eq g188.symm))
  have ne_bk_br : bk ≠ br := Nat.ne_of_lt (Nat.lt_of_lt_of_le A_bk.lt (Nat.le_of_eq g188.symm))
  have ne_bl_br : bl ≠ br := Nat.ne_of_lt (Nat.lt_of_lt_of_le A_bl.lt (Nat.le_of_eq g188.symm))
  have ne_bc_br : bc ≠ br := Nat.ne_of_lt (Nat.lt_of_lt_of_le A_bc.lt (Nat.le_of_eq g188.symm))
  have ne_bp_br : bp ≠ br := Nat.ne_of_lt (Nat.lt_of_lt_of_le A_bp.lt (Nat.le_of_eq g188.symm))
  have ne_bq_br : bq ≠ br := Nat.ne_of_lt (Nat.lt_of_lt_of_le A_bq.lt (Nat.le_of_eq g188.symm))
  have g_br : n0 ≤ br := Nat.le_trans Z0 (Nat.le_of_eq g188.symm)
  have f189 := E_ao.ext E188
  have f190 := F_bl.ext E188
  have f194 := F_ke.ext E188
  have f195 := F_sl.ext E188
  have f196 := F_ch.ext E188
  have f199 := A_bk.ext E188
  have f200 := A_bl.ext E188
  have f201 := A_bc.ext E188
  have f205 := S0.ext E188
  have z206 := Nat.le_trans Z0 E188.1
  have f207 : own_Av Z h188 br .int (2 * cn) (fun _ => (.int 0)) := own_Av.new A188 (cc.2) (cc.1)
  have st208 := fun t kt => st187 t (ls188 t kt)
  have e_00 : (own_A K (own_g S Ch) qv0 0) = [] := by rw [hqv0]; rfl
  have f209 : own_Av Z h188 br .int (2 * cn) (fun q => .int ((own_A K (own_g S Ch) qv0 0).getD q 0)) := f207.congr (fun q hq => by rw [e_00]; rfl)
  have st210 : own_K p e below T188 m 15 #[rv ao, rv br, iv (Int32.ofNat (own_A K (own_g S Ch) qv0 0).length), iv (Int32.ofNat qv0), .unset, .unset] [.ref ao, .int (Int32.ofNat qv0)] B0 := fun t kt => st208 t (by
   refine XS.astoreN X188.here hx rfl (hb hby d11_8) rfl rfl (l' := #[rv ao, rv br, .unset, .unset, .unset, .unset]) rfl ?_
   refine XS.iconst X188.here hx rfl (hb hby d11_9) ?_
   refine XS.istoreN X188.here hx rfl (hb hby d11_10) rfl (l' := #[rv ao, rv br, iv 0, .unset, .unset, .unset]) rfl ?_
   refine XS.iconst X188.here hx rfl (hb hby d11_11) ?_
   refine XS.istoreN X188.here hx rfl (hb hby d11_12) rfl (l' := #[rv ao, rv br, iv 0, iv 0, .unset, .unset]) rfl ?_
   show own_At p e below T188 m 13 #[rv ao, rv br, iv 0, iv 0, .unset, .unset] [] _
   have e_l : (0 : Int32) = Int32.ofNat (own_A K (own_g S Ch) qv0 0).length := by rw [e_00]; rfl
   have e_q : (0 : Int32) = Int32.ofNat qv0 := by rw [hqv0]; rfl
   refine own_cast2 (p := p) (e := e) (below := below) (T := T188) (m := m) (pc := 13) (x0 := .val (.ref ao)) (x1 := .val (.ref br)) (x4 := .unset) (x5 := .unset) e_l e_q ?_
   refine XS.iloadN X188.here hx rfl (hb hby d11_13) rfl ?_
   refine XS.aloadN X188.here hx rfl (hb hby d11_14) rfl rfl ?_
   exact kt)
  obtain ⟨T211, X211, e211, ls211⟩ := getF X188 hx hZ hown (host := "") (Or.inl (own_w hw 45 rfl)) Via.refl e188 f190 (g := (mkF m 15 #[rv ao, rv br, iv (Int32.ofNat (own_A K (own_g S Ch) qv0 0).length), iv (Int32.ofNat qv0), .unset, .unset] [.ref ao, .int (Int32.ofNat qv0)])) rfl rfl (hb hby d11_15)
  have st212 := fun t kt => st210 t (ls211 t kt)
  have hc213 : (Int32.ofNat qv0) < (Int32.ofNat nb) := by rw [own_ltN (by omega) (by omega)]; omega
  have st214 : own_K p e below T211 m 22 #[rv ao, rv br, iv (Int32.ofNat (own_A K (own_g S Ch) qv0 0).length), iv (Int32.ofNat qv0), .unset, .unset] [.ref ao] B0 := fun t kt => st212 t (by
   refine XS.icmpNo X211.here hx rfl (hb hby d11_18) rfl (tlt hc213).2.1 ?_
   refine XS.aloadN X211.here hx rfl (hb hby d11_21) rfl rfl ?_
   exact kt)
  obtain ⟨T215, X215, e215, ls215⟩ := getF X211 hx hZ hown (host := "") (Or.inl (own_w hw 23 rfl)) Via.refl e211 f195 (g := (mkF m 22 #[rv ao, rv br, iv (Int32.ofNat (own_A K (own_g S Ch) qv0 0).length), iv (Int32.ofNat qv0), .unset, .unset] [.ref ao])) rfl rfl (hb hby d11_22)
  have st216 := fun t kt => st214 t (ls215 t kt)
  have st217 : own_K p e below T215 m 26 #[rv ao, rv br, iv (Int32.ofNat (own_A K (own_g S Ch) qv0 0).length), iv (Int32.ofNat qv0), .unset, .unset] [.int (Int32.ofNat qv0), .ref bl] B0 := fun t kt => st216 t (by
   refine XS.iloadN X215.here hx rfl (hb hby d11_25) rfl ?_
   exact kt)
  have ls218 := own_iaload X215 hx hZ e215 f200 (j := (Int32.ofNat qv0)) (i := qv0) (qn0.2) (qn0.1) (by omega) (v := (.int (Int32.ofNat (S qv0)))) (rfl) (g := (mkF m 26 #[rv ao, rv br, iv (Int32.ofNat (own_A K (own_g S Ch) qv0 0).length), iv (Int32.ofNat qv0), .unset, .unset] [.int (Int32.ofNat qv0), .ref bl])) rfl rfl (hb hby d11_26)
  have st219 := fun t kt => st217 t (ls218 t kt)
  have st220 : own_K p e below T215 m 35 #[rv ao, rv br, iv (Int32.ofNat (own_A K (own_g S Ch) qv0 0).length), iv (Int32.ofNat qv0), iv (Int32.ofNat (64 * S qv0)), iv (Int32.ofNat 0)] [] B0 := fun t kt => st219 t (by
   refine XS.bipush X215.here hx rfl (hb hby d11_27) ?_
   refine XS.ishl X215.here hx rfl (hb hby d11_29) rfl ?_
   show own_At p e below T215 m 30 #[rv ao, rv br, iv (Int32.ofNat (own_A K (own_g S Ch) qv0 0).length), iv (Int32.ofNat qv0), .unset, .unset] [(.int ((Int32.ofNat (S qv0)) <<< ((6 : Int32) &&& 31)))] _
   rw [show ((Int32.ofNat (S qv0)) <<< ((6 : Int32) &&& 31)) = (Int32.ofNat (64 * S qv0)) from (own_shl6 (S qv0) (by have := hS qv0 (by omega); omega))]
   refine XS.istore X215.here hx rfl (hb hby d11_30) rfl (l' := #[rv ao, rv br, iv (Int32.ofNat (own_A K (own_g S Ch) qv0 0).length), iv (Int32.ofNat qv0), iv (Int32.ofNat (64 * S qv0)), .unset]) rfl ?_
   refine XS.iconst X215.here hx rfl (hb hby d11_32) ?_
   refine XS.istore X215.here hx rfl (hb hby d11_33) rfl (l' := #[rv ao, rv br, iv (Int32.ofNat (own_A K (own_g S Ch) qv0 0).length), iv (Int32.ofNat qv0), iv (Int32.ofNat (64 * S qv0)), iv 0]) rfl ?_
   show own_At p e below T215 m 35 #[rv ao, rv br, iv (Int32.ofNat (own_A K (own_g S Ch) qv0 0).length), iv (Int32.ofNat qv0), iv (Int32.ofNat (64 * S qv0)), iv 0] [] _
   rw [show (0 : Int32) = (Int32.ofNat 0) from (rfl)]
   exact kt)
  obtain ⟨T221, L221, h221, X221, e221, N221, Z221, ⟨Sm221, A221⟩, ls221⟩ := own_loopI e64 nb cap cn qv0 K S Ch ao br bk bc 1 6 hx hZ hw hby hml hown he64 (by omega) hnc hc4 (hS qv0 (by omega)) hlen hcn ne_ao_br ne_bk_br ne_bc_br g_br e64 0 (Nat.zero_add _) _ _ _ X215 e215 N0 z206 ⟨f189, f194, f196, f199, f201, f209⟩
  have np_ao : ¬ (ao = br) := ne_ao_br
  have np_bk : ¬ (bk = br) := ne_bk_br
  have np_bl : ¬ (bl = br) := ne_bl_br
  have np_bc : ¬ (bc = br) := ne_bc_br
  have np_bp : ¬ (bp = br) := ne_bp_br
  have np_bq : ¬ (bq = br) := ne_bq_br
  have f222 := own_ExaSm f189 Sm221 (np_ao)
  have f223 := own_FldSm f190 Sm221 (np_ao)
  have f227 := own_FldSm f194 Sm221 (np_ao)
  have f228 := own_FldSm f195 Sm221 (np_ao)
  have f229 := own_FldSm f196 Sm221 (np_ao)
  have f232 := f199.sm Sm221 (np_bk)
  have f233 := f200.sm Sm221 (np_bl)
  have f234 := f201.sm Sm221 (np_bc)
  have f237 := f205.trans (own_Sm.mono Sm221 (fun x hx => by subst hx; exact g_br))
  have st238 := fun t kt => st220 t (ls221 t kt)
  have e_v0 : qv0 + 1 = qv1 := by omega
  have e_n0 : (own_A K (own_g S Ch) qv0 e64) = (own_A K (own_g S Ch) qv1 0) := by rw [he64, ← e_v0]; exact own_A_next
  have f239 : own_Av Z h221 br .int (2 * cn) (fun q => .int ((own_A K (own_g S Ch) qv1 0).getD q 0)) := by rw [← e_n0]; exact A221
  have st240 : own_K p e below T221 m 15 #[rv ao, rv br, iv (Int32.ofNat (own_A K (own_g S Ch) qv1 0).length), iv (Int32.ofNat qv1), iv (Int32.ofNat (64 * S qv0)), iv (Int32.ofNat e64)] [.ref ao, .int (Int32.ofNat qv1)] B0 := fun t kt => st238 t (by
   show own_At p e below T221 m 95 #[rv ao, rv br, iv (Int32.ofNat (own_A K (own_g S Ch) qv0 e64).length), iv (Int32.ofNat qv0), iv (Int32.ofNat (64 * S qv0)), iv (Int32.ofNat e64)] [] _
   rw [show (Int32.ofNat (own_A K (own_g S Ch) qv0 e64).length) = (Int32.ofNat (own_A K (own_g S Ch) qv1 0).length) from (by rw [e_n0])]
   refine XS.iinc X221.here hx rfl (hb hby d11_95) rfl (l' := #[rv ao, rv br, iv (Int32.ofNat (own_A K (own_g S Ch) qv1 0).length), iv ((Int32.ofNat qv0) + (1 : Int32)), iv (Int32.ofNat (64 * S qv0)), iv (Int32.ofNat e64)]) rfl ?_
   refine XS.goto X221.here hx rfl (pc0 := 98) (pc' := 13) rfl (hb hby d11_98) (by decide) (by decide) ?_
   show own_At p e below T221 m 13 #[rv ao, rv br, iv (Int32.ofNat (own_A K (own_g S Ch) qv1 0).length), iv ((Int32.ofNat qv0) + (1 : Int32)), iv (Int32.ofNat (64 * S qv0)), iv (Int32.ofNat e64)] [] _
   rw [show ((Int32.ofNat qv0) + (1 : Int32)) = (Int32.ofNat qv1) from (by rw [own_up1, e_v0])]
   refine XS.iloadN X221.here hx rfl (hb hby d11_13) rfl ?_
   refine XS.aloadN X221.here hx rfl (hb hby d11_14) rfl rfl ?_
   exact kt)
  obtain ⟨T241, X241, e241, ls241⟩ := getF X221 hx hZ hown (host := "") (Or.inl (own_w hw 45 rfl)) Via.refl e221 f223 (g := (mkF m 15 #[rv ao, rv br, iv (Int32.ofNat (own_A K (own_g S Ch) qv1 0).length), iv (Int32.ofNat qv1), iv (Int32.ofNat (64 * S qv0)), iv (Int32.ofNat e64)] [.ref ao, .int (Int32.ofNat qv1)])) rfl rfl (hb hby d11_15)
  have st242 := fun t kt => st240 t (ls241 t kt)
  have hc243 : (Int32.ofNat qv1) < (Int32.ofNat nb) := by rw [own_ltN (by omega) (by omega)]; omega
  have st244 : own_K p e below T241 m 22 #[rv ao, rv br, iv (Int32.ofNat (own_A K (own_g S Ch) qv1 0).length), iv (Int32.ofNat qv1), iv (Int32.ofNat (64 * S qv0)), iv (Int32.ofNat e64)] [.ref ao] B0 := fun t kt => st242 t (by
   refine XS.icmpNo X241.here hx rfl (hb hby d11_18) rfl (tlt hc243).2.1 ?_
   refine XS.aloadN X241.here hx rfl (hb hby d11_21) rfl rfl ?_
   exact kt)
  obtain ⟨T245, X245, e245, ls245⟩ := getF X241 hx hZ hown (host := "") (Or.inl (own_w hw 23 rfl)) Via.refl e241 f228 (g := (mkF m 22 #[rv ao, rv br, iv (Int32.ofNat (own_A K (own_g S Ch) qv1 0).length), iv (Int32.ofNat qv1), iv (Int32.ofNat (64 * S qv0)), iv (Int32.ofNat e64)] [.ref ao])) rfl rfl (hb hby d11_22)
  have st246 := fun t kt => st244 t (ls245 t kt)
  have st247 : own_K p e below T245 m 26 #[rv ao, rv br, iv (Int32.ofNat (own_A K (own_g S Ch) qv1 0).length), iv (Int32.ofNat qv1), iv (Int32.ofNat (64 * S qv0)), iv (Int32.ofNat e64)] [.int (Int32.ofNat qv1), .ref bl] B0 := fun t kt => st246 t (by
   refine XS.iloadN X245.here hx rfl (hb hby d11_25) rfl ?_
   exact kt)
  have ls248 := own_iaload X245 hx hZ e245 f233 (j := (Int32.ofNat qv1)) (i := qv1) (qn1.2) (qn1.1) (by omega) (v := (.int (Int32.ofNat (S qv1)))) (rfl) (g := (mkF m 26 #[rv ao, rv br, iv (Int32.ofNat (own_A K (own_g S Ch) qv1 0).length), iv (Int32.ofNat qv1), iv (Int32.ofNat (64 * S qv0)), iv (Int32.ofNat e64)] [.int (Int32.ofNat qv1), .ref bl])) rfl rfl (hb hby d11_26)
  have st249 := fun t kt => st247 t (ls248 t kt)
  have st250 : own_K p e below T245 m 35 #[rv ao, rv br, iv (Int32.ofNat (own_A K (own_g S Ch) qv1 0).length), iv (Int32.ofNat qv1), iv (Int32.ofNat (64 * S qv1)), iv (Int32.ofNat 0)] [] B0 := fun t kt => st249 t (by
   refine XS.bipush X245.here hx rfl (hb hby d11_27) ?_
   refine XS.ishl X245.here hx rfl (hb hby d11_29) rfl ?_
   show own_At p e below T245 m 30 #[rv ao, rv br, iv (Int32.ofNat (own_A K (own_g S Ch) qv1 0).length), iv (Int32.ofNat qv1), iv (Int32.ofNat (64 * S qv0)), iv (Int32.ofNat e64)] [(.int ((Int32.ofNat (S qv1)) <<< ((6 : Int32) &&& 31)))] _
   rw [show ((Int32.ofNat (S qv1)) <<< ((6 : Int32) &&& 31)) = (Int32.ofNat (64 * S qv1)) from (own_shl6 (S qv1) (by have := hS qv1 (by omega); omega))]
   refine XS.istore X245.here hx rfl (hb hby d11_30) rfl (l' := #[rv ao, rv br, iv (Int32.ofNat (own_A K (own_g S Ch) qv1 0).length), iv (Int32.ofNat qv1), iv (Int32.ofNat (64 * S qv1)), iv (Int32.ofNat e64)]) rfl ?_
   refine XS.iconst X245.here hx rfl (hb hby d11_32) ?_
   refine XS.istore X245.here hx rfl (hb hby d11_33) rfl (l' := #[rv ao, rv br, iv (Int32.ofNat (own_A K (own_g S Ch) qv1 0).length), iv (Int32.ofNat qv1), iv (Int32.ofNat (64 * S qv1)), iv 0]) rfl ?_
   show own_At p e below T245 m 35 #[rv ao, rv br, iv (Int32.ofNat (own_A K (own_g S Ch) qv1 0).length), iv (Int32.ofNat qv1), iv (Int32.ofNat (64 * S qv1)), iv 0] [] _
   rw [show (0 : Int32) = (Int32.ofNat 0) from (rfl)]
   exact kt)
  obtain ⟨T251, L251, h251, X251, e251, N251, Z251, ⟨Sm251, A251⟩, ls251⟩ := own_loopI e64 nb cap cn qv1 K S Ch ao br bk bc 1 6 hx hZ hw hby hml hown he64 (by omega) hnc hc4 (hS qv1 (by omega)) hlen hcn ne_ao_br ne_bk_br ne_bc_br g_br e64 0 (Nat.zero_add _) _ _ _ X245 e245 N221 Z221 ⟨f222, f227, f229, f232, f234, f239⟩
  have f252 := own_ExaSm f222 Sm251 (np_ao)
  have f253 := own_FldSm f223 Sm251 (np_ao)
  have f257 := own_FldSm f227 Sm251 (np_ao)
  have f258 := own_FldSm f228 Sm251 (np_ao)
  have f259 := own_FldSm f229 Sm251 (np_ao)
  have f262 := f232.sm Sm251 (np_bk)
  have f263 := f233.sm Sm251 (np_bl)
  have f264 := f234.sm Sm251 (np_bc)
  have f267 := f237.trans (own_Sm.mono Sm251 (fun x hx => by subst hx; exact g_br))
  have st268 := fun t kt => st250 t (ls251 t kt)
  have e_v1 : qv1 + 1 = qv2 := by omega
  have e_n1 : (own_A K (own_g S Ch) qv1 e64) = (own_A K (own_g S Ch) qv2 0) := by rw [he64, ← e_v1]; exact own_A_next
  have f269 : own_Av Z h251 br .int (2 * cn) (fun q => .int ((own_A K (own_g S Ch) qv2 0).getD q 0)) := by rw [← e_n1]; exact A251
  have st270 : own_K p e below T251 m 15 #[rv ao, rv br, iv (Int32.ofNat (own_A K (own_g S Ch) qv2 0).length), iv (Int32.ofNat qv2), iv (Int32.ofNat (64 * S qv1)), iv (Int32.ofNat e64)] [.ref ao, .int (Int32.ofNat qv2)] B0 := fun t kt => st268 t (by
   show own_At p e below T251 m 95 #[rv ao, rv br, iv (Int32.ofNat (own_A K (own_g S Ch) qv1 e64).length), iv (Int32.ofNat qv1), iv (Int32.ofNat (64 * S qv1)), iv (Int32.ofNat e64)] [] _
   rw [show (Int32.ofNat (own_A K (own_g S Ch) qv1 e64).length) = (Int32.ofNat (own_A K (own_g S Ch) qv2 0).length) from (by rw [e_n1])]
   refine XS.iinc X251.here hx rfl (hb hby d11_95) rfl (l' := #[rv ao, rv br, iv (Int32.ofNat (own_A K (own_g S Ch) qv2 0).length), iv ((Int32.ofNat qv1) + (1 : Int32)), iv (Int32.ofNat (64 * S qv1)), iv (Int32.ofNat e64)]) rfl ?_
   refine XS.goto X251.here hx rfl (pc0 := 98) (pc' := 13) rfl (hb hby d11_98) (by decide) (by decide) ?_
   show own_At p e below T251 m 13 #[rv ao, rv br, iv (Int32.ofNat (own_A K (own_g S Ch) qv2 0).length), iv ((Int32.ofNat qv1) + (1 : Int32)), iv (Int32.ofNat (64 * S qv1)), iv (Int32.ofNat e64)] [] _
   rw [show ((Int32.ofNat qv1) + (1 : Int32)) = (Int32.ofNat qv2) from (by rw [own_up1, e_v1])]
   refine XS.iloadN X251.here hx rfl (hb hby d11_13) rfl ?_
   refine XS.aloadN X251.here hx rfl (hb hby d11_14) rfl rfl ?_
   exact kt)
  obtain ⟨T271, X271, e271, ls271⟩ := getF X251 hx hZ hown (host := "") (Or.inl (own_w hw 45 rfl)) Via.refl e251 f253 (g := (mkF m 15 #[rv ao, rv br, iv (Int32.ofNat (own_A K (own_g S Ch) qv2 0).length), iv (Int32.ofNat qv2), iv (Int32.ofNat (64 * S qv1)), iv (Int32.ofNat e64)] [.ref ao, .int (Int32.ofNat qv2)])) rfl rfl (hb hby d11_15)
  have st272 := fun t kt => st270 t (ls271 t kt)
  have hc273 : (Int32.ofNat qv2) < (Int32.ofNat nb) := by rw [own_ltN (by omega) (by omega)]; omega
  have st274 : own_K p e below T271 m 22 #[rv ao, rv br, iv (Int32.ofNat (own_A K (own_g S Ch) qv2 0).length), iv (Int32.ofNat qv2), iv (Int32.ofNat (64 * S qv1)), iv (Int32.ofNat e64)] [.ref ao] B0 := fun t kt => st272 t (by
   refine XS.icmpNo X271.here hx rfl (hb hby d11_18) rfl (tlt hc273).2.1 ?_
   refine XS.aloadN X271.here hx rfl (hb hby d11_21) rfl rfl ?_
   exact kt)
  obtain ⟨T275, X275, e275, ls275⟩ := getF X271 hx hZ hown (host := "") (Or.inl (own_w hw 23 rfl)) Via.refl e271 f258 (g := (mkF m 22 #[rv ao, rv br, iv (Int32.ofNat (own_A K (own_g S Ch) qv2 0).length), iv (Int32.ofNat qv2), iv (Int32.ofNat (64 * S qv1)), iv (Int32.ofNat e64)] [.ref ao])) rfl rfl (hb hby d11_22)
  have st276 := fun t kt => st274 t (ls275 t kt)
  have st277 : own_K p e below T275 m 26 #[rv ao, rv br, iv (Int32.ofNat (own_A K (own_g S Ch) qv2 0).length), iv (Int32.ofNat qv2), iv (Int32.ofNat (64 * S qv1)), iv (Int32.ofNat e64)] [.int (Int32.ofNat qv2), .ref bl] B0 := fun t kt => st276 t (by
   refine XS.iloadN X275.here hx rfl (hb hby d11_25) rfl ?_
   exact kt)
  have ls278 := own_iaload X275 hx hZ e275 f263 (j := (Int32.ofNat qv2)) (i := qv2) (qn2.2) (qn2.1) (by omega) (v := (.int (Int32.ofNat (S qv2)))) (rfl) (g := (mkF m 26 #[rv ao, rv br, iv (Int32.ofNat (own_A K (own_g S Ch) qv2 0).length), iv (Int32.ofNat qv2), iv (Int32.ofNat (64 * S qv1)), iv (Int32.ofNat e64)] [.int (Int32.ofNat qv2), .ref bl])) rfl rfl (hb hby d11_26)
  have st279 := fun t kt => st277 t (ls278 t kt)
  have st280 : own_K p e below T275 m 35 #[rv ao, rv br, iv (Int32.ofNat (own_A K (own_g S Ch) qv2 0).length), iv (Int32.ofNat qv2), iv (Int32.ofNat (64 * S qv2)), iv (Int32.ofNat 0)] [] B0 := fun t kt => st279 t (by
   refine XS.bipush X275.here hx rfl (hb hby d11_27) ?_
   refine XS.ishl X275.here hx rfl (hb hby d11_29) rfl ?_
   show own_At p e below T275 m 30 #[rv ao, rv br, iv (Int32.ofNat (own_A K (own_g S Ch) qv2 0).length), iv (Int32.ofNat qv2), iv (Int32.ofNat (64 * S qv1)), iv (Int32.ofNat e64)] [(.int ((Int32.ofNat (S qv2)) <<< ((6 : Int32) &&& 31)))] _
   rw [show ((Int32.ofNat (S qv2)) <<< ((6 : Int32) &&& 31)) = (Int32.ofNat (64 * S qv2)) from (own_shl6 (S qv2) (by have := hS qv2 (by omega); omega))]
   refine XS.istore X275.here hx rfl (hb hby d11_30) rfl (l' := #[rv ao, rv br, iv (Int32.ofNat (own_A K (own_g S Ch) qv2 0).length), iv (Int32.ofNat qv2), iv (Int32.ofNat (64 * S qv2)), iv (Int32.ofNat e64)]) rfl ?_
   refine XS.iconst X275.here hx rfl (hb hby d11_32) ?_
   refine XS.istore X275.here hx rfl (hb hby d11_33) rfl (l' := #[rv ao, rv br, iv (Int32.ofNat (own_A K (own_g S Ch) qv2 0).length), iv (Int32.ofNat qv2), iv (Int32.ofNat (64 * S qv2)), iv 0]) rfl ?_
   show own_At p e below T275 m 35 #[rv ao, rv br, iv (Int32.ofNat (own_A K (own_g S Ch) qv2 0).length), iv (Int32.ofNat qv2), iv (Int32.ofNat (64 * S qv2)), iv 0] [] _
   rw [show (0 : Int32) = (Int32.ofNat 0) from (rfl)]
   exact kt)
  obtain ⟨T281, L281, h281, X281, e281, N281, Z281, ⟨Sm281, A281⟩, ls281⟩ := own_loopI e64 nb cap cn qv2 K S Ch ao br bk bc 1 6 hx hZ hw hby hml hown he64 (by omega) hnc hc4 (hS qv2 (by omega)) hlen hcn ne_ao_br ne_bk_br ne_bc_br g_br e64 0 (Nat.zero_add _) _ _ _ X275 e275 N251 Z251 ⟨f252, f257, f259, f262, f264, f269⟩
  have f283 := own_FldSm f253 Sm281 (np_ao)
  have f297 := f267.trans (own_Sm.mono Sm281 (fun x hx => by subst hx; exact g_br))
  have st298 := fun t kt => st280 t (ls281 t kt)
  have e_v2 : qv2 + 1 = qv3 := by omega
  have e_n2 : (own_A K (own_g S Ch) qv2 e64) = (own_A K (own_g S Ch) qv3 0) := by rw [he64, ← e_v2]; exact own_A_next
  have f299 : own_Av Z h281 br .int (2 * cn) (fun q => .int ((own_A K (own_g S Ch) qv3 0).getD q 0)) := by rw [← e_n2]; exact A281
  have st300 : own_K p e below T281 m 15 #[rv ao, rv br, iv (Int32.ofNat (own_A K (own_g S Ch) qv3 0).length), iv (Int32.ofNat qv3), iv (Int32.ofNat (64 * S qv2)), iv (Int32.ofNat e64)] [.ref ao, .int (Int32.ofNat qv3)] B0 := fun t kt => st298 t (by
   show own_At p e below T281 m 95 #[rv ao, rv br, iv (Int32.ofNat (own_A K (own_g S Ch) qv2 e64).length), iv (Int32.ofNat qv2), iv (Int32.ofNat (64 * S qv2)), iv (Int32.ofNat e64)] [] _
   rw [show (Int32.ofNat (own_A K (own_g S Ch) qv2 e64).length) = (Int32.ofNat (own_A K (own_g S Ch) qv3 0).length) from (by rw [e_n2])]
   refine XS.iinc X281.here hx rfl (hb hby d11_95) rfl (l' := #[rv ao, rv br, iv (Int32.ofNat (own_A K (own_g S Ch) qv3 0).length), iv ((Int32.ofNat qv2) + (1 : Int32)), iv (Int32.ofNat (64 * S qv2)), iv (Int32.ofNat e64)]) rfl ?_
   refine XS.goto X281.here hx rfl (pc0 := 98) (pc' := 13) rfl (hb hby d11_98) (by decide) (by decide) ?_
   show own_At p e below T281 m 13 #[rv ao, rv br, iv (Int32.ofNat (own_A K (own_g S Ch) qv3 0).length), iv ((Int32.ofNat qv2) + (1 : Int32)), iv (Int32.ofNat (64 * S qv2)), iv (Int32.ofNat e64)] [] _
   rw [show ((Int32.ofNat qv2) + (1 : Int32)) = (Int32.ofNat qv3) from (by rw [own_up1, e_v2])]
   refine XS.iloadN X281.here hx rfl (hb hby d11_13) rfl ?_
   refine XS.aloadN X281.here hx rfl (hb hby d11_14) rfl rfl ?_
   exact kt)
  obtain ⟨T301, X301, e301, ls301⟩ := getF X281 hx hZ hown (host := "") (Or.inl (own_w hw 45 rfl)) Via.refl e281 f283 (g := (mkF m 15 #[rv ao, rv br, iv (Int32.ofNat (own_A K (own_g S Ch) qv3 0).length), iv (Int32.ofNat qv3), iv (Int32.ofNat (64 * S qv2)), iv (Int32.ofNat e64)] [.ref ao, .int (Int32.ofNat qv3)])) rfl rfl (hb hby d11_15)
  have st302 := fun t kt => st300 t (ls301 t kt)
  have hc303 : ¬ ((Int32.ofNat qv3) < (Int32.ofNat nb)) := by rw [own_ltN (by omega) (by omega)]; omega
  have e_fin : qv3 = nb := by omega
  have st304 : own_K p e below T301 m 102 #[rv ao, rv br, iv (Int32.ofNat (own_A K (own_g S Ch) qv3 0).length), iv (Int32.ofNat qv3), iv (Int32.ofNat (64 * S qv2)), iv (Int32.ofNat e64)] [.ref br] B0 := fun t kt => st302 t (by
   refine XS.icmpYes X301.here hx rfl (pc0 := 18) (pc' := 101) rfl (hb hby d11_18) rfl (flt hc303).2.1 (by decide) (by decide) ?_
   refine XS.aloadN X301.here hx rfl (hb hby d11_101) rfl rfl ?_
   exact kt)
  obtain ⟨fs, hr, hrun, hended, hW, hsame⟩ := X301.leave (v := (some (.ref br))) (fun h => by rw [Bd.returns] at h; cases h)
  subst hB0
  refine ⟨_, _, st304 _ ?_, hrun, hended, _, _, rfl, ?_, ⟨_, rfl⟩, hW, hsame.mono (by decide) (by decide)⟩
  ·exact retOut X301 hx Bd.returns rfl (Or.inr (Or.inr (Or.inr (Or.inr ⟨rfl, rfl, rfl⟩)))) (hb hby d11_102) hr
  ·show Q_rm_edges Z ao nb cap K S Ch cn lk ev h0 n0 _ T301.heap _
   rw [e301]
   exact ⟨br, rfl, N281, Z281, f297, by rw [← e_fin, ← own_A0]; exact f299⟩
set_option maxRecDepth 65536 in
set_option maxHeartbeats 40000000 in
theorem own_loopC {p : Program} {l : Launch} {e : Env} {R : Room} {s : State} {m : MethodId} {args : Array Value} {below : List Frame} {meth : Method} {c : Code} {Z : State} {a0 : Array Value} {n0 : Nat} (ev : Nat) (cap : Nat) (ff : Nat → Int64) (ao : Addr) (ae : Addr) (bf : Addr) (bp : Addr) (bq : Addr) (ct : Int32) (x3 : Int32) (s6 : Slot) (CB : Nat) (SB : Nat) (hx : p.tables.exec = Jvm.exec) (hZ : Z.Warmed39 s.vm) (hw : ∀ d ∈ tables_1, d.before a0 Z = true) (hby : c.code = prog_38_method_1_code) (hml : c.maxLocals = 7) (hown : s.vm.findClass "com/example/saturation/saturation/OpenNode" = some m.cls) (hev : ev ≤ 3) (hcap : cap ≤ 4) (ne_ao_bp : ao ≠ bp) (ne_ao_bq : ao ≠ bq) (ne_bp_bq : bp ≠ bq) (ne_bf_bp : bf ≠ bp) (ne_bf_bq : bf ≠ bq) (ne_ao_bf : ao ≠ bf) (g_bp : n0 ≤ bp) (g_bq : n0 ≤ bq) (hRc : CB ≤ R.cells) (hRs : SB ≤ R.slots) (hRf : 1 ≤ R.frames) (hRl : 30 ≤ R.locals) :
  ∀ (k i : Nat), i + k = ev → ∀ (cells : Nat) (slots : Nat) (T0 : State) (locs : List Loc) (h : Heap), Stand p l e R s m args below meth c T0 locs cells slots → T0.heap = h → Fr n0 locs → n0 ≤ h.size → (Exa Z h ao "com/example/saturation/saturation/OpenNode" ∧ Fld Z h ao "com/example/saturation/saturation/OpenNode" "pending" "[[J" (.ref bp) ∧ Fld Z h ao "com/example/saturation/saturation/OpenNode" "pendingCount" "[I" (.ref bq) ∧ Fld Z h ao "com/example/saturation/saturation/OpenNode" "count" "I" (.int ct) ∧ Exa Z h bf "[J" ∧ own_Av Z h bf .long cap (fun q => .long (ff q)) ∧ cells + k ≤ CB ∧ slots + 4 * k ≤ SB ∧ (∃ pf : Nat → Addr, own_Ra Z h bp .long "[J" ev (fun q => if q < i then .ref (pf q) else .null) ∧ own_Pf Z h n0 i (fun _ => cap) pf) ∧ ∃ g : Nat → Int32, own_Av Z h bq .int ev (fun q => .int (g q))) →
   ∃ (T' : State) (locs' : List Loc) (h' : Heap), Stand p l e R s m args below meth c T' locs' CB SB ∧ T'.heap = h' ∧ Fr n0 locs' ∧ n0 ≤ h'.size ∧ (own_Sm (fun x => x = bp ∨ x = bq) h h' ∧ own_Pd Z h' n0 ev cap bp bq) ∧ own_Go p e below (T'.setTop (mkF m 273 #[rv ao, rv ae, iv (Int32.ofNat ev), iv x3, rv bf, iv (Int32.ofNat ev), s6] [])) (T0.setTop (mkF m 235 #[rv ao, rv ae, iv (Int32.ofNat ev), iv x3, rv bf, iv (Int32.ofNat i), s6] [])) := by
 intro k
 induction k with
 | zero =>
  intro i hi cells slots T0 locs h X0 e0 N0 Z0 inv
  have st0 : own_Go p e below (T0.setTop (mkF m 235 #[rv ao, rv ae, iv (Int32.ofNat ev), iv x3, rv bf, iv (Int32.ofNat i), s6] [])) (T0.setTop (mkF m 235 #[rv ao, rv ae, iv (Int32.ofNat ev), iv x3, rv bf, iv (Int32.ofNat i), s6] [])) := fun _ k => k
  obtain ⟨E_ao, F_pe, F_pc, F_ct, E_bf, A_bf, hcc, hsc, ⟨pf, A_bp, H_pf⟩, gq, A_bq⟩ := inv
  have e_i : i = ev := by omega
  have hc1 : ¬ ((Int32.ofNat i) < (Int32.ofNat ev)) := by rw [own_ltN (by omega) (by omega)]; omega
  have st2 : own_Go p e below (T0.setTop (mkF m 273 #[rv ao, rv ae, iv (Int32.ofNat ev), iv x3, rv bf, iv (Int32.ofNat ev), s6] [])) (T0.setTop (mkF m 235 #[rv ao, rv ae, iv (Int32.ofNat ev), iv x3, rv bf, iv (Int32.ofNat i), s6] [])) := fun t kt => st0 t (by
   refine XS.iload X0.here hx rfl (hb hby d3_235) rfl ?_
   refine XS.iloadN X0.here hx rfl (hb hby d3_237) rfl ?_
   refine XS.icmpYes X0.here hx rfl (pc0 := 238) (pc' := 273) rfl (hb hby d3_238) rfl (flt hc1).2.1 (by decide) (by decide) ?_
   show own_At p e below T0 m 273 #[rv ao, rv ae, iv (Int32.ofNat ev), iv x3, rv bf, iv (Int32.ofNat i), s6] [] _
   rw [show (Int32.ofNat i) = (Int32.ofNat ev) from (by rw [e_i])]
   exact kt)
  exact ⟨_, _, _, (X0.more (by omega) (by omega)), e0, N0, Z0, ⟨own_Sm.refl, ⟨pf, A_bp.congr (fun q hq => if_pos (by omega)), by rw [← e_i]; exact H_pf⟩, _, A_bq⟩, st2⟩
 | succ k ih =>
  intro i hi cells slots T0 locs h X0 e0 N0 Z0 inv
  have st0 : own_Go p e below (T0.setTop (mkF m 235 #[rv ao, rv ae, iv (Int32.ofNat ev), iv x3, rv bf, iv (Int32.ofNat i), s6] [])) (T0.setTop (mkF m 235 #[rv ao, rv ae, iv (Int32.ofNat ev), iv x3, rv bf, iv (Int32.ofNat i), s6] [])) := fun _ k => k
  obtain ⟨E_ao, F_pe, F_pc, F_ct, E_bf, A_bf, hcc, hsc, ⟨pf, A_bp, H_pf⟩, gq, A_bq⟩ := inv
  have hiv : i < ev := by omega
  have ii := own_nat32 (show i < 2 ^ 31 by omega)
  have hc3 : (Int32.ofNat i) < (Int32.ofNat ev) := by rw [own_ltN (by omega) (by omega)]; exact hiv
  have st4 : own_Go p e below (T0.setTop (mkF m 242 #[rv ao, rv ae, iv (Int32.ofNat ev), iv x3, rv bf, iv (Int32.ofNat i), s6] [.ref ao])) (T0.setTop (mkF m 235 #[rv ao, rv ae, iv (Int32.ofNat ev), iv x3, rv bf, iv (Int32.ofNat i), s6] [])) := fun t kt => st0 t (by
   refine XS.iload X0.here hx rfl (hb hby d3_235) rfl ?_
   refine XS.iloadN X0.here hx rfl (hb hby d3_237) rfl ?_
   refine XS.icmpNo X0.here hx rfl (hb hby d3_238) rfl (tlt hc3).2.1 ?_
   refine XS.aloadN X0.here hx rfl (hb hby d3_241) rfl rfl ?_
   exact kt)
  obtain ⟨T5, X5, e5, ls5⟩ := getF X0 hx hZ hown (host := "") (Or.inl (own_w hw 32 rfl)) Via.refl e0 F_pe (g := (mkF m 242 #[rv ao, rv ae, iv (Int32.ofNat ev), iv x3, rv bf, iv (Int32.ofNat i), s6] [.ref ao])) rfl rfl (hb hby d3_242)
  have st6 := fun t kt => st4 t (ls5 t kt)
  have st7 : own_Go p e below (T5.setTop (mkF m 249 #[rv ao, rv ae, iv (Int32.ofNat ev), iv x3, rv bf, iv (Int32.ofNat i), s6] [.ref bf, .int (Int32.ofNat i), .ref bp])) (T0.setTop (mkF m 235 #[rv ao, rv ae, iv (Int32.ofNat ev), iv x3, rv bf, iv (Int32.ofNat i), s6] [])) := fun t kt => st6 t (by
   refine XS.iload X5.here hx rfl (hb hby d3_245) rfl ?_
   refine XS.aload X5.here hx rfl (hb hby d3_247) rfl rfl ?_
   exact kt)
  obtain ⟨T8, h8, X8, e8, E8, A8, B8, ls8⟩ := own_clone X5 hx hZ hown (own_w hw 78 rfl) (own_w hw 79 rfl) (own_w hw 83 rfl) (own_w hw 81 rfl) (own_w hw 82 rfl) (own_w hw 84 rfl) e5 A_bf E_bf (fun _ _ => rfl) (g := (mkF m 249 #[rv ao, rv ae, iv (Int32.ofNat ev), iv x3, rv bf, iv (Int32.ofNat i), s6] [.ref bf, .int (Int32.ofNat i), .ref bp])) rfl (by rw [hml]; rfl) rfl (hb hby d3_249) (Nat.le_trans (by decide) hRf) (W := 2) (cap := 4) (by show 2 * 0 + _ ≤ _; exact Nat.le_of_eq rfl) (Nat.le_trans (by decide) hRl) (hcap) (Nat.le_trans (by omega : cells + 1 ≤ CB) hRc) (Nat.le_trans (by omega : slots + 4 ≤ SB) hRs)
  obtain ⟨bn, g8⟩ : ∃ z, z = h.size := ⟨_, rfl⟩
  rw [← g8] at A8 B8 ls8
  have ne_bp_bn : bp ≠ bn := Nat.ne_of_lt (Nat.lt_of_lt_of_le A_bp.lt (Nat.le_of_eq g8.symm))
  have ne_bq_bn : bq ≠ bn := Nat.ne_of_lt (Nat.lt_of_lt_of_le A_bq.lt (Nat.le_of_eq g8.symm))
  have g_bn : n0 ≤ bn := Nat.le_trans Z0 (Nat.le_of_eq g8.symm)
  have f9 := E_ao.ext E8
  have f10 := F_pe.ext E8
  have f11 := F_pc.ext E8
  have f12 := F_ct.ext E8
  have f13 := E_bf.ext E8
  have f14 := A_bf.ext E8
  have f15 := A_bp.ext E8
  have f16 := H_pf.ext E8
  have f17 := A_bq.ext E8
  have z18 := Nat.le_trans Z0 E8.1
  have st19 := fun t kt => st7 t (ls8 t kt)
  obtain ⟨T20, X20, e20, ls20⟩ := castY X8 hx hZ hown (own_w hw 30 rfl) e8 (Ins.self B8) (g := (mkF m 252 #[rv ao, rv ae, iv (Int32.ofNat ev), iv x3, rv bf, iv (Int32.ofNat i), s6] [.ref bn, .int (Int32.ofNat i), .ref bp])) rfl rfl (hb hby d3_252)
  have st21 := fun t kt => st19 t (ls20 t kt)
  obtain ⟨T22, h22, X22, e22, W22, B22, ls22⟩ := own_aastore X20 hx hZ e20 f15 B8 (j := (Int32.ofNat i)) (i := i) (ii.2) (ii.1) (hiv) (g := (mkF m 255 #[rv ao, rv ae, iv (Int32.ofNat ev), iv x3, rv bf, iv (Int32.ofNat i), s6] [.ref bn, .int (Int32.ofNat i), .ref bp])) rfl rfl (hb hby d3_255)
  have N22 := Fr.snoc X22 N0 g_bp
  have f23 := f9.wr W22
  have f24 := f10.other W22 (Or.inl ne_ao_bp)
  have f25 := f11.other W22 (Or.inl ne_ao_bp)
  have f26 := f12.other W22 (Or.inl ne_ao_bp)
  have f27 := f13.wr W22
  have f28 := f14.other W22 ne_bf_bp
  have f29 := f16.wrA W22 f15.av (by decide)
  have f30 := f17.other W22 (Ne.symm ne_bp_bq)
  have f31 := A8.other W22 (Ne.symm ne_bp_bn)
  have f32 := B8.wr W22
  have z33 := Nat.le_trans z18 (Keep.of_wr W22).1
  have f34 := B22.congr (g := (fun q => if q < i + 1 then .ref ((fun q => if q = i then bn else pf q) q) else .null)) (fun q hq => own_pfn q i bn pf)
  have st35 := fun t kt => st21 t (ls22 t kt)
  have st36 : own_Go p e below (T22.setTop (mkF m 257 #[rv ao, rv ae, iv (Int32.ofNat ev), iv x3, rv bf, iv (Int32.ofNat i), s6] [.ref ao])) (T0.setTop (mkF m 235 #[rv ao, rv ae, iv (Int32.ofNat ev), iv x3, rv bf, iv (Int32.ofNat i), s6] [])) := fun t kt => st35 t (by
   refine XS.aloadN X22.here hx rfl (hb hby d3_256) rfl rfl ?_
   exact kt)
  obtain ⟨T37, X37, e37, ls37⟩ := getF X22 hx hZ hown (host := "") (Or.inl (own_w hw 34 rfl)) Via.refl e22 f25 (g := (mkF m 257 #[rv ao, rv ae, iv (Int32.ofNat ev), iv x3, rv bf, iv (Int32.ofNat i), s6] [.ref ao])) rfl rfl (hb hby d3_257)
  have st38 := fun t kt => st36 t (ls37 t kt)
  have st39 : own_Go p e below (T37.setTop (mkF m 263 #[rv ao, rv ae, iv (Int32.ofNat ev), iv x3, rv bf, iv (Int32.ofNat i), s6] [.ref ao, .int (Int32.ofNat i), .ref bq])) (T0.setTop (mkF m 235 #[rv ao, rv ae, iv (Int32.ofNat ev), iv x3, rv bf, iv (Int32.ofNat i), s6] [])) := fun t kt => st38 t (by
   refine XS.iload X37.here hx rfl (hb hby d3_260) rfl ?_
   refine XS.aloadN X37.here hx rfl (hb hby d3_262) rfl rfl ?_
   exact kt)
  obtain ⟨T40, X40, e40, ls40⟩ := getF X37 hx hZ hown (host := "") (Or.inl (own_w hw 28 rfl)) Via.refl e37 f26 (g := (mkF m 263 #[rv ao, rv ae, iv (Int32.ofNat ev), iv x3, rv bf, iv (Int32.ofNat i), s6] [.ref ao, .int (Int32.ofNat i), .ref bq])) rfl rfl (hb hby d3_263)
  have st41 := fun t kt => st39 t (ls40 t kt)
  obtain ⟨T42, h42, X42, e42, W42, B42, ls42⟩ := own_iastore X40 hx hZ e40 f30 (j := (Int32.ofNat i)) (i := i) (ii.2) (ii.1) (hiv) (g := (mkF m 266 #[rv ao, rv ae, iv (Int32.ofNat ev), iv x3, rv bf, iv (Int32.ofNat i), s6] [.int ct, .int (Int32.ofNat i), .ref bq])) rfl rfl (hb hby d3_266)
  have N42 := Fr.snoc X42 N22 g_bq
  have f43 := f23.wr W42
  have f44 := f24.other W42 (Or.inl ne_ao_bq)
  have f45 := f25.other W42 (Or.inl ne_ao_bq)
  have f46 := f26.other W42 (Or.inl ne_ao_bq)
  have f47 := f27.wr W42
  have f48 := f28.other W42 ne_bf_bq
  have f49 := f29.wrA W42 f30 (by decide)
  have f50 := f31.other W42 (Ne.symm ne_bq_bn)
  have f51 := f32.wr W42
  have f52 := f34.other W42 ne_bp_bq
  have z53 := Nat.le_trans z33 (Keep.of_wr W42).1
  have f54 := B42.congr (g := (fun q => .int (if q = i then ct else gq q))) (fun q hq => by by_cases z : q = i <;> simp [z])
  have st55 := fun t kt => st41 t (ls42 t kt)
  have Pn : own_Pf Z h42 n0 (i + 1) (fun _ => cap) (fun q => if q = i then bn else pf q) := fun q hq => by
   by_cases z : q = i
   ·subst z
    simp only [if_true]
    exact ⟨g_bn, f51, _, f50⟩
   ·simp only [if_neg z]
    exact f49 q (by omega)
  have st56 : own_Go p e below (T42.setTop (mkF m 235 #[rv ao, rv ae, iv (Int32.ofNat ev), iv x3, rv bf, iv (Int32.ofNat (i + 1)), s6] [])) (T0.setTop (mkF m 235 #[rv ao, rv ae, iv (Int32.ofNat ev), iv x3, rv bf, iv (Int32.ofNat i), s6] [])) := fun t kt => st55 t (by
   refine XS.iinc X42.here hx rfl (hb hby d3_267) rfl (l' := #[rv ao, rv ae, iv (Int32.ofNat ev), iv x3, rv bf, iv ((Int32.ofNat i) + (1 : Int32)), s6]) rfl ?_
   refine XS.goto X42.here hx rfl (pc0 := 270) (pc' := 235) rfl (hb hby d3_270) (by decide) (by decide) ?_
   show own_At p e below T42 m 235 #[rv ao, rv ae, iv (Int32.ofNat ev), iv x3, rv bf, iv ((Int32.ofNat i) + (1 : Int32)), s6] [] _
   rw [show ((Int32.ofNat i) + (1 : Int32)) = (Int32.ofNat (i + 1)) from (own_up1 i)]
   exact kt)
  obtain ⟨T57, L57, h57, X57, e57, N57, Z57, P57, st57⟩ := ih (i + 1) (by omega) _ _ _ _ _ X42 e42 N42 z53 (⟨f43, f44, f45, f46, f47, f48, by omega, by omega, ⟨_, f52, Pn⟩, _, f54⟩)
  exact ⟨T57, L57, h57, X57, e57, N57, Z57, ⟨((((own_Sm.refl (P := fun x => x = bp ∨ x = bq)).ext E8).wr W22 (Or.inl rfl)).wr W42 (Or.inr rfl)).trans P57.1, P57.2⟩, fun t kt => st56 t (st57 t kt)⟩
def Q_rm_in0 (Z : State) (ao : Addr) (ae : Addr) (ev : Nat) (fe : Nat → Value) (h0 : Heap) (n0 : Nat) (v : Option Value) (h : Heap) (L : List Loc) : Prop := v = none ∧ Fr n0 L ∧ n0 ≤ h.size ∧ own_Sm (fun x => n0 ≤ x) h0 h ∧ own_N Z h n0 ao 0 1 (fun _ => 0) (fun _ => 0) (fun _ => 0) 0 (-1) ev
set_option maxRecDepth 65536 in
set_option maxHeartbeats 40000000 in
theorem rm_in0 (l : Launch) (Z : State) (a0 : Array Value) (hw : ∀ d ∈ tables_1, d.before a0 Z = true) (ws : List Jvm.Cond) (ao : Addr) (ae : Addr) (ev : Nat) (fe : Nat → Value) (h0 : Heap) (n0 : Nat) (Z0 : n0 ≤ h0.size) (F_lastKey_ao : Fld Z h0 ao "com/example/saturation/saturation/OpenNode" "lastKey" "I" (.int 0)) (F_keys_ao : Fld Z h0 ao "com/example/saturation/saturation/OpenNode" "keys" "[I" .null) (F_slots_ao : Fld Z h0 ao "com/example/saturation/saturation/OpenNode" "slots" "[I" .null) (F_children_ao : Fld Z h0 ao "com/example/saturation/saturation/OpenNode" "children" "[I" .null) (F_count_ao : Fld Z h0 ao "com/example/saturation/saturation/OpenNode" "count" "I" (.int 0)) (F_pending_ao : Fld Z h0 ao "com/example/saturation/saturation/OpenNode" "pending" "[[J" .null) (F_pendingCount_ao : Fld Z h0 ao "com/example/saturation/saturation/OpenNode" "pendingCount" "[I" .null) (F_blocks_ao : Fld Z h0 ao "com/example/saturation/saturation/OpenNode" "blocks" "I" (.int 0)) (F_lastPosition_ao : Fld Z h0 ao "com/example/saturation/saturation/OpenNode" "lastPosition" "I" (.int 0)) (E_ao : Exa Z h0 ao "com/example/saturation/saturation/OpenNode") (g_ao : n0 ≤ ao) (Ae : own_Av Z h0 ae .int 0 fe) (ne_ao_ae : ao ≠ ae) (hev : ev ≤ 3) :
  MetFree l (⟨"com/example/saturation/saturation/OpenNode", "<init>", "([II)V"⟩ : MethodName) (head1 (Jvm.Cond.code (⟨"com/example/saturation/saturation/OpenNode", "<init>", "([II)V"⟩ : MethodName) prog_38_method_1_code 7 none :: ws) ({ frames := 1, cells := 9, slots := 85, locals := 30 } : Room)) (fun a U => a = #[.ref ao, .ref ae, .int (Int32.ofNat ev)] ∧ Z.Warmed39 U.vm ∧ U.heap = h0) (fun _ _ _ _ _ => True) (fun _ U o U' => ∃ v L, o = .returned v ∧ Q_rm_in0 Z ao ae ev fe h0 n0 v U'.heap L ∧ FrameEnd U o U' L ({ frames := 1, cells := 9, slots := 85, locals := 30 } : Room).cells ({ frames := 1, cells := 9, slots := 85, locals := 30 } : Room).slots) := by
 refine MetFree.of_bodySF (plainFor_of_name own_pn1) hisR ?_
 intro p e s m args below meth c s₁ Bd hml0 hP hK
 obtain ⟨rfl, hZ, hh⟩ := hP
 have hx := Bd.exec
 have hby := Bd.bytes
 have hml : c.maxLocals = 7 := hml0
 have hown : s.vm.findClass "com/example/saturation/saturation/OpenNode" = some m.cls := findClass_of_methodNamed Bd.named
 have hnm := (name_of_methodNamed Bd.named Bd.method).1
 have X0 : Stand p l e ({ frames := 1, cells := 9, slots := 85, locals := 30 } : Room) s m #[.ref ao, .ref ae, .int (Int32.ofNat ev)] below meth c s₁ [] 0 0 := Stand.of_body Bd
 have e0 : s₁.heap = h0 := by rw [← hh, Bd.state]; rfl
 have N0 := Fr.nil n0
 obtain ⟨B0, hB0⟩ : ∃ B, B = (s₁.setTop (entryFrame m #[.ref ao, .ref ae, .int (Int32.ofNat ev)] 7)) := ⟨_, rfl⟩
 have st0 : own_K p e below s₁ m 0 #[rv ao, rv ae, iv (Int32.ofNat ev), .unset, .unset, .unset, .unset] [] B0 := fun t kk0 => hB0 ▸ castTop (own_ef3_RRI m ao ae (Int32.ofNat ev)) kk0
 have S0 : own_Sm (fun x => n0 ≤ x) h0 h0 := own_Sm.refl
 have st1 : own_K p e below s₁ m 1 #[rv ao, rv ae, iv (Int32.ofNat ev), .unset, .unset, .unset, .unset] [.ref ao] B0 := fun t kt => st0 t (by
  refine XS.aloadN X0.here hx rfl (hb hby d3_0) rfl rfl ?_
  exact kt)
 obtain ⟨T2, X2, e2, ls2⟩ := initO X0 hx hZ hown (own_w hw 16 rfl) (own_w hw 17 rfl) (own_w hw 18 rfl) e0 (g := (mkF m 1 #[rv ao, rv ae, iv (Int32.ofNat ev), .unset, .unset, .unset, .unset] [.ref ao])) rfl (by rw [hml]; rfl) rfl (hb hby d3_1) (by decide) (W := 0) (by show 2 * 0 + _ ≤ _; exact Nat.le_of_eq rfl) (by decide)
 have st3 := fun t kt => st1 t (ls2 t kt)
 have st4 : own_K p e below T2 m 6 #[rv ao, rv ae, iv (Int32.ofNat ev), .unset, .unset, .unset, .unset] [.int (-1 : Int32), .ref ao] B0 := fun t kt => st3 t (by
  refine XS.aloadN X2.here hx rfl (hb hby d3_4) rfl rfl ?_
  refine XS.iconst X2.here hx rfl (hb hby d3_5) ?_
  exact kt)
 obtain ⟨T5, h5, X5, e5, W5, ls5⟩ := putF X2 hx hZ hown (host := "") (Or.inl (own_w hw 19 rfl)) Via.refl e2 F_lastKey_ao E_ao (Or.inl (own_w hw 20 rfl)) (own_w hw 11 rfl) (ty := .int) (by decide) rfl rfl (g := (mkF m 6 #[rv ao, rv ae, iv (Int32.ofNat ev), .unset, .unset, .unset, .unset] [.int (-1 : Int32), .ref ao])) rfl rfl (hb hby d3_6)
 have N5 := Fr.snoc X5 N0 g_ao
 have f6 := F_lastKey_ao.same W5
 have f7 := F_keys_ao.other W5 (Or.inr (own_s22_20 hw))
 have f8 := F_slots_ao.other W5 (Or.inr (own_s24_20 hw))
 have f9 := F_children_ao.other W5 (Or.inr (own_s26_20 hw))
 have f10 := F_count_ao.other W5 (Or.inr (own_s29_20 hw))
 have f11 := F_pending_ao.other W5 (Or.inr (own_s33_20 hw))
 have f12 := F_pendingCount_ao.other W5 (Or.inr (own_s35_20 hw))
 have f13 := F_blocks_ao.other W5 (Or.inr (own_s46_20 hw))
 have f14 := F_lastPosition_ao.other W5 (Or.inr (own_s66_20 hw))
 have f15 := E_ao.wr W5
 have f16 := Ae.other W5 (Ne.symm ne_ao_ae)
 have f17 := S0.wr W5 g_ao
 have z18 := Nat.le_trans Z0 (Keep.of_wr W5).1
 have st19 := fun t kt => st4 t (ls5 t kt)
 have st20 : own_K p e below T5 m 17 #[rv ao, rv ae, iv (Int32.ofNat ev), iv 1, iv 2, .unset, .unset] [.ref ae, .int 2] B0 := fun t kt => st19 t (by
  refine XS.iconst X5.here hx rfl (hb hby d3_9) ?_
  refine XS.istoreN X5.here hx rfl (hb hby d3_10) rfl (l' := #[rv ao, rv ae, iv (Int32.ofNat ev), iv 1, .unset, .unset, .unset]) rfl ?_
  refine XS.iconst X5.here hx rfl (hb hby d3_11) ?_
  refine XS.istore X5.here hx rfl (hb hby d3_12) rfl (l' := #[rv ao, rv ae, iv (Int32.ofNat ev), iv 1, iv 2, .unset, .unset]) rfl ?_
  refine XS.iload X5.here hx rfl (hb hby d3_14) rfl ?_
  refine XS.aloadN X5.here hx rfl (hb hby d3_16) rfl rfl ?_
  exact kt)
 have ls21 := own_alen X5 hx hZ e5 f16 (g := (mkF m 17 #[rv ao, rv ae, iv (Int32.ofNat ev), iv 1, iv 2, .unset, .unset] [.ref ae, .int 2])) rfl rfl (hb hby d3_17)
 have st22 := fun t kt => st20 t (ls21 t kt)
 have hc23 : ¬ ((2 : Int32) < (0 : Int32)) := by decide
 have st24 : own_K p e below T5 m 51 #[rv ao, rv ae, iv (Int32.ofNat ev), iv 1, iv 2, .unset, .unset] [.int 1, .ref ao] B0 := fun t kt => st22 t (by
  refine XS.icmpYes X5.here hx rfl (pc0 := 18) (pc' := 49) rfl (hb hby d3_18) rfl (flt hc23).2.1 (by decide) (by decide) ?_
  refine XS.aloadN X5.here hx rfl (hb hby d3_49) rfl rfl ?_
  refine XS.iloadN X5.here hx rfl (hb hby d3_50) rfl ?_
  exact kt)
 obtain ⟨T25, h25, c25, X25, e25, E25, A25, ls25⟩ := newP X5 hx hZ (own_w hw 6 rfl) e5 (g := (mkF m 51 #[rv ao, rv ae, iv (Int32.ofNat ev), iv 1, iv 2, .unset, .unset] [.int 1, .ref ao])) rfl (hb hby d3_51) rfl (by decide) (cap := 1) (by decide) (by decide) (by decide) (by decide)
 obtain ⟨bk, g25⟩ : ∃ z, z = h5.size := ⟨_, rfl⟩
 rw [← g25] at A25 ls25
 have ne_ao_bk : ao ≠ bk := Nat.ne_of_lt (Nat.lt_of_lt_of_le f6.lt (Nat.le_of_eq g25.symm))
 have g_bk : n0 ≤ bk := Nat.le_trans z18 (Nat.le_of_eq g25.symm)
 have f26 := f6.ext E25
 have f27 := f7.ext E25
 have f28 := f8.ext E25
 have f29 := f9.ext E25
 have f30 := f10.ext E25
 have f31 := f11.ext E25
 have f32 := f12.ext E25
 have f33 := f13.ext E25
 have f34 := f14.ext E25
 have f35 := f15.ext E25
 have f36 := f16.ext E25
 have f37 := f17.ext E25
 have z38 := Nat.le_trans z18 E25.1
 have f39 : own_Av Z h25 bk .int 1 (fun _ => (.int 0)) := own_Av.new A25 (by decide) (by decide)
 have st40 := fun t kt => st24 t (ls25 t kt)
 obtain ⟨T41, h41, X41, e41, W41, ls41⟩ := putF X25 hx hZ hown (host := "") (Or.inl (own_w hw 21 rfl)) Via.refl e25 f27 f35 (Or.inl (own_w hw 22 rfl)) (own_w hw 11 rfl) (ty := (.array .int)) (by decide) rfl rfl (g := (mkF m 53 #[rv ao, rv ae, iv (Int32.ofNat ev), iv 1, iv 2, .unset, .unset] [.ref bk, .ref ao])) rfl rfl (hb hby d3_53)
 have N41 := Fr.snoc X41 N5 g_ao
 have f42 := f26.other W41 (Or.inr (own_s20_22 hw))
 have f43 := f27.same W41
 have f44 := f28.other W41 (Or.inr (own_s24_22 hw))
 have f45 := f29.other W41 (Or.inr (own_s26_22 hw))
 have f46 := f30.other W41 (Or.inr (own_s29_22 hw))
 have f47 := f31.other W41 (Or.inr (own_s33_22 hw))
 have f48 := f32.other W41 (Or.inr (own_s35_22 hw))
 have f49 := f33.other W41 (Or.inr (own_s46_22 hw))
 have f50 := f34.other W41 (Or.inr (own_s66_22 hw))
 have f51 := f35.wr W41
 have f52 := f36.other W41 (Ne.symm ne_ao_ae)
 have f53 := f37.wr W41 g_ao
 have f54 := f39.other W41 (Ne.symm ne_ao_bk)
 have z55 := Nat.le_trans z38 (Keep.of_wr W41).1
 have st56 := fun t kt => st40 t (ls41 t kt)
 have st57 : own_K p e below T41 m 58 #[rv ao, rv ae, iv (Int32.ofNat ev), iv 1, iv 2, .unset, .unset] [.int 1, .ref ao] B0 := fun t kt => st56 t (by
  refine XS.aloadN X41.here hx rfl (hb hby d3_56) rfl rfl ?_
  refine XS.iloadN X41.here hx rfl (hb hby d3_57) rfl ?_
  exact kt)
 obtain ⟨T58, h58, c58, X58, e58, E58, A58, ls58⟩ := newP X41 hx hZ (own_w hw 6 rfl) e41 (g := (mkF m 58 #[rv ao, rv ae, iv (Int32.ofNat ev), iv 1, iv 2, .unset, .unset] [.int 1, .ref ao])) rfl (hb hby d3_58) rfl (by decide) (cap := 1) (by decide) (by decide) (by decide) (by decide)
 obtain ⟨bl, g58⟩ : ∃ z, z = h41.size := ⟨_, rfl⟩
 rw [← g58] at A58 ls58
 have ne_ao_bl : ao ≠ bl := Nat.ne_of_lt (Nat.lt_of_lt_of_le f42.lt (Nat.le_of_eq g58.symm))
 have ne_bk_bl : bk ≠ bl := Nat.ne_of_lt (Nat.lt_of_lt_of_le f54.lt (Nat.le_of_eq g58.symm))
 have g_bl : n0 ≤ bl := Nat.le_trans z55 (Nat.le_of_eq g58.symm)
 have f59 := f42.ext E58
 have f60 := f43.ext E58
 have f61 := f44.ext E58
 have f62 := f45.ext E58
 have f63 := f46.ext E58
 have f64 := f47.ext E58
 have f65 := f48.ext E58
 have f66 := f49.ext E58
 have f67 := f50.ext E58
 have f68 := f51.ext E58
 have f69 := f52.ext E58
 have f70 := f53.ext E58
 have f71 := f54.ext E58
 have z72 := Nat.le_trans z55 E58.1
 have f73 : own_Av Z h58 bl .int 1 (fun _ => (.int 0)) := own_Av.new A58 (by decide) (by decide)
 have st74 := fun t kt => st57 t (ls58 t kt)
 obtain ⟨T75, h75, X75, e75, W75, ls75⟩ := putF X58 hx hZ hown (host := "") (Or.inl (own_w hw 23 rfl)) Via.refl e58 f61 f68 (Or.inl (own_w hw 24 rfl)) (own_w hw 11 rfl) (ty := (.array .int)) (by decide) rfl rfl (g := (mkF m 60 #[rv ao, rv ae, iv (Int32.ofNat ev), iv 1, iv 2, .unset, .unset] [.ref bl, .ref ao])) rfl rfl (hb hby d3_60)
 have N75 := Fr.snoc X75 N41 g_ao
 have f76 := f59.other W75 (Or.inr (own_s20_24 hw))
 have f77 := f60.other W75 (Or.inr (own_s22_24 hw))
 have f78 := f61.same W75
 have f79 := f62.other W75 (Or.inr (own_s26_24 hw))
 have f80 := f63.other W75 (Or.inr (own_s29_24 hw))
 have f81 := f64.other W75 (Or.inr (own_s33_24 hw))
 have f82 := f65.other W75 (Or.inr (own_s35_24 hw))
 have f83 := f66.other W75 (Or.inr (own_s46_24 hw))
 have f84 := f67.other W75 (Or.inr (own_s66_24 hw))
 have f85 := f68.wr W75
 have f86 := f69.other W75 (Ne.symm ne_ao_ae)
 have f87 := f70.wr W75 g_ao
 have f88 := f71.other W75 (Ne.symm ne_ao_bk)
 have f89 := f73.other W75 (Ne.symm ne_ao_bl)
 have z90 := Nat.le_trans z72 (Keep.of_wr W75).1
 have st91 := fun t kt => st74 t (ls75 t kt)
 have st92 : own_K p e below T75 m 68 #[rv ao, rv ae, iv (Int32.ofNat ev), iv 1, iv 2, .unset, .unset] [.int 64, .ref ao] B0 := fun t kt => st91 t (by
  refine XS.aloadN X75.here hx rfl (hb hby d3_63) rfl rfl ?_
  refine XS.iloadN X75.here hx rfl (hb hby d3_64) rfl ?_
  refine XS.bipush X75.here hx rfl (hb hby d3_65) ?_
  refine XS.ishl X75.here hx rfl (hb hby d3_67) rfl ?_
  show own_At p e below T75 m 68 #[rv ao, rv ae, iv (Int32.ofNat ev), iv 1, iv 2, .unset, .unset] [(.int ((1 : Int32) <<< ((6 : Int32) &&& 31))), .ref ao] _
  rw [show ((1 : Int32) <<< ((6 : Int32) &&& 31)) = (64 : Int32) from (by decide +kernel)]
  exact kt)
 obtain ⟨T93, h93, c93, X93, e93, E93, A93, ls93⟩ := newP X75 hx hZ (own_w hw 6 rfl) e75 (g := (mkF m 68 #[rv ao, rv ae, iv (Int32.ofNat ev), iv 1, iv 2, .unset, .unset] [.int 64, .ref ao])) rfl (hb hby d3_68) rfl (by decide) (cap := 64) (by decide) (by decide) (by decide) (by decide)
 obtain ⟨bc, g93⟩ : ∃ z, z = h75.size := ⟨_, rfl⟩
 rw [← g93] at A93 ls93
 have ne_ao_bc : ao ≠ bc := Nat.ne_of_lt (Nat.lt_of_lt_of_le f76.lt (Nat.le_of_eq g93.symm))
 have ne_bk_bc : bk ≠ bc := Nat.ne_of_lt (Nat.lt_of_lt_of_le f88.lt (Nat.le_of_eq g93.symm))
 have ne_bl_bc : bl ≠ bc := Nat.ne_of_lt (Nat.lt_of_lt_of_le f89.lt (Nat.le_of_eq g93.symm))
 have g_bc : n0 ≤ bc := Nat.le_trans z90 (Nat.le_of_eq g93.symm)
 have f94 := f76.ext E93
 have f95 := f77.ext E93
 have f96 := f78.ext E93
 have f97 := f79.ext E93
 have f98 := f80.ext E93
 have f99 := f81.ext E93
 have f100 := f82.ext E93
 have f101 := f83.ext E93
 have f102 := f84.ext E93
 have f103 := f85.ext E93
 have f104 := f86.ext E93
 have f105 := f87.ext E93
 have f106 := f88.ext E93
 have f107 := f89.ext E93
 have z108 := Nat.le_trans z90 E93.1
 have f109 : own_Av Z h93 bc .int 64 (fun _ => (.int 0)) := own_Av.new A93 (by decide) (by decide)
 have st110 := fun t kt => st92 t (ls93 t kt)
 obtain ⟨T111, h111, X111, e111, W111, ls111⟩ := putF X93 hx hZ hown (host := "") (Or.inl (own_w hw 25 rfl)) Via.refl e93 f97 f103 (Or.inl (own_w hw 26 rfl)) (own_w hw 11 rfl) (ty := (.array .int)) (by decide) rfl rfl (g := (mkF m 70 #[rv ao, rv ae, iv (Int32.ofNat ev), iv 1, iv 2, .unset, .unset] [.ref bc, .ref ao])) rfl rfl (hb hby d3_70)
 have N111 := Fr.snoc X111 N75 g_ao
 have f112 := f94.other W111 (Or.inr (own_s20_26 hw))
 have f113 := f95.other W111 (Or.inr (own_s22_26 hw))
 have f114 := f96.other W111 (Or.inr (own_s24_26 hw))
 have f115 := f97.same W111
 have f116 := f98.other W111 (Or.inr (own_s29_26 hw))
 have f117 := f99.other W111 (Or.inr (own_s33_26 hw))
 have f118 := f100.other W111 (Or.inr (own_s35_26 hw))
 have f119 := f101.other W111 (Or.inr (own_s46_26 hw))
 have f120 := f102.other W111 (Or.inr (own_s66_26 hw))
 have f121 := f103.wr W111
 have f122 := f104.other W111 (Ne.symm ne_ao_ae)
 have f123 := f105.wr W111 g_ao
 have f124 := f106.other W111 (Ne.symm ne_ao_bk)
 have f125 := f107.other W111 (Ne.symm ne_ao_bl)
 have f126 := f109.other W111 (Ne.symm ne_ao_bc)
 have z127 := Nat.le_trans z108 (Keep.of_wr W111).1
 have st128 := fun t kt => st110 t (ls111 t kt)
 have st129 : own_K p e below T111 m 74 #[rv ao, rv ae, iv (Int32.ofNat ev), iv 1, iv 2, .unset, .unset] [.int 1] B0 := fun t kt => st128 t (by
  refine XS.iloadN X111.here hx rfl (hb hby d3_73) rfl ?_
  exact kt)
 obtain ⟨T130, h130, c130, X130, e130, E130, A130, B130, ls130⟩ := newPE X111 hx hZ (own_w hw 27 rfl) e111 (g := (mkF m 74 #[rv ao, rv ae, iv (Int32.ofNat ev), iv 1, iv 2, .unset, .unset] [.int 1])) rfl (hb hby d3_74) rfl (by decide) (cap := 1) (by decide) (by decide) (by decide) (by decide) (ad := "[J") (by decide)
 obtain ⟨bf, g130⟩ : ∃ z, z = h111.size := ⟨_, rfl⟩
 rw [← g130] at A130 B130 ls130
 have ne_ao_bf : ao ≠ bf := Nat.ne_of_lt (Nat.lt_of_lt_of_le f112.lt (Nat.le_of_eq g130.symm))
 have g_bf : n0 ≤ bf := Nat.le_trans z127 (Nat.le_of_eq g130.symm)
 have f131 := f112.ext E130
 have f132 := f113.ext E130
 have f133 := f114.ext E130
 have f134 := f115.ext E130
 have f135 := f116.ext E130
 have f136 := f117.ext E130
 have f137 := f118.ext E130
 have f138 := f119.ext E130
 have f139 := f120.ext E130
 have f140 := f121.ext E130
 have f141 := f122.ext E130
 have f142 := f123.ext E130
 have f143 := f124.ext E130
 have f144 := f125.ext E130
 have f145 := f126.ext E130
 have z146 := Nat.le_trans z127 E130.1
 have f147 : own_Av Z h130 bf .long 1 (fun _ => (.long (0 : Int64))) := own_Av.new A130 (by decide) (by decide)
 have st148 := fun t kt => st129 t (ls130 t kt)
 have st149 : own_K p e below T130 m 84 #[rv ao, rv ae, iv (Int32.ofNat ev), iv 1, rv bf, iv 0, .unset] [.ref ae, .int 0] B0 := fun t kt => st148 t (by
  refine XS.astore X130.here hx rfl (hb hby d3_76) rfl rfl (l' := #[rv ao, rv ae, iv (Int32.ofNat ev), iv 1, rv bf, .unset, .unset]) rfl ?_
  refine XS.iconst X130.here hx rfl (hb hby d3_78) ?_
  refine XS.istore X130.here hx rfl (hb hby d3_79) rfl (l' := #[rv ao, rv ae, iv (Int32.ofNat ev), iv 1, rv bf, iv 0, .unset]) rfl ?_
  refine XS.iload X130.here hx rfl (hb hby d3_81) rfl ?_
  refine XS.aloadN X130.here hx rfl (hb hby d3_83) rfl rfl ?_
  exact kt)
 have ls150 := own_alen X130 hx hZ e130 f141 (g := (mkF m 84 #[rv ao, rv ae, iv (Int32.ofNat ev), iv 1, rv bf, iv 0, .unset] [.ref ae, .int 0])) rfl rfl (hb hby d3_84)
 have st151 := fun t kt => st149 t (ls150 t kt)
 have hc152 : ¬ ((0 : Int32) < (0 : Int32)) := by decide
 have st153 : own_K p e below T130 m 211 #[rv ao, rv ae, iv (Int32.ofNat ev), iv 1, rv bf, iv 0, .unset] [.ref ae, .ref ao] B0 := fun t kt => st151 t (by
  refine XS.icmpYes X130.here hx rfl (pc0 := 85) (pc' := 209) rfl (hb hby d3_85) rfl (flt hc152).2.1 (by decide) (by decide) ?_
  refine XS.aloadN X130.here hx rfl (hb hby d3_209) rfl rfl ?_
  refine XS.aloadN X130.here hx rfl (hb hby d3_210) rfl rfl ?_
  exact kt)
 have ls154 := own_alen X130 hx hZ e130 f141 (g := (mkF m 211 #[rv ao, rv ae, iv (Int32.ofNat ev), iv 1, rv bf, iv 0, .unset] [.ref ae, .ref ao])) rfl rfl (hb hby d3_211)
 have st155 := fun t kt => st153 t (ls154 t kt)
 have st156 : own_K p e below T130 m 214 #[rv ao, rv ae, iv (Int32.ofNat ev), iv 1, rv bf, iv 0, .unset] [.int 0, .ref ao] B0 := fun t kt => st155 t (by
  refine XS.iconst X130.here hx rfl (hb hby d3_212) ?_
  refine XS.idiv X130.here hx rfl (hb hby d3_213) rfl (by decide) ?_
  show own_At p e below T130 m 214 #[rv ao, rv ae, iv (Int32.ofNat ev), iv 1, rv bf, iv 0, .unset] [(.int ((0 : Int32) / (2 : Int32))), .ref ao] _
  rw [show ((0 : Int32) / (2 : Int32)) = (0 : Int32) from (by decide +kernel)]
  exact kt)
 obtain ⟨T157, h157, X157, e157, W157, ls157⟩ := putF X130 hx hZ hown (host := "") (Or.inl (own_w hw 28 rfl)) Via.refl e130 f135 f140 (Or.inl (own_w hw 29 rfl)) (own_w hw 11 rfl) (ty := .int) (by decide) rfl rfl (g := (mkF m 214 #[rv ao, rv ae, iv (Int32.ofNat ev), iv 1, rv bf, iv 0, .unset] [.int 0, .ref ao])) rfl rfl (hb hby d3_214)
 have N157 := Fr.snoc X157 N111 g_ao
 have f158 := f131.other W157 (Or.inr (own_s20_29 hw))
 have f159 := f132.other W157 (Or.inr (own_s22_29 hw))
 have f160 := f133.other W157 (Or.inr (own_s24_29 hw))
 have f161 := f134.other W157 (Or.inr (own_s26_29 hw))
 have f162 := f135.same W157
 have f163 := f136.other W157 (Or.inr (own_s33_29 hw))
 have f164 := f137.other W157 (Or.inr (own_s35_29 hw))
 have f165 := f138.other W157 (Or.inr (own_s46_29 hw))
 have f166 := f139.other W157 (Or.inr (own_s66_29 hw))
 have f167 := f140.wr W157
 have f168 := f141.other W157 (Ne.symm ne_ao_ae)
 have f169 := f142.wr W157 g_ao
 have f170 := f143.other W157 (Ne.symm ne_ao_bk)
 have f171 := f144.other W157 (Ne.symm ne_ao_bl)
 have f172 := f145.other W157 (Ne.symm ne_ao_bc)
 have f173 := f147.other W157 (Ne.symm ne_ao_bf)
 have f174 := B130.wr W157
 have z175 := Nat.le_trans z146 (Keep.of_wr W157).1
 have st176 := fun t kt => st156 t (ls157 t kt)
 have vv := own_nat32 (show ev < 2 ^ 31 by omega)
 have st177 : own_K p e below T157 m 219 #[rv ao, rv ae, iv (Int32.ofNat ev), iv 1, rv bf, iv 0, .unset] [.int (Int32.ofNat ev), .ref ao] B0 := fun t kt => st176 t (by
  refine XS.aloadN X157.here hx rfl (hb hby d3_217) rfl rfl ?_
  refine XS.iloadN X157.here hx rfl (hb hby d3_218) rfl ?_
  exact kt)
 obtain ⟨T178, h178, c178, X178, e178, E178, A178, B178, O178, ls178⟩ := newRA X157 hx hZ hown (C := "[J") (ty := .long) (by decide) (own_w hw 30 rfl) (own_w hw 31 rfl) e157 (g := (mkF m 219 #[rv ao, rv ae, iv (Int32.ofNat ev), iv 1, rv bf, iv 0, .unset] [.int (Int32.ofNat ev), .ref ao])) rfl (hb hby d3_219) rfl (vv.2) (cap := 3) (by rw [vv.1]; exact hev) (by decide) (by decide) (by decide) (ad := "[[J") (by decide)
 obtain ⟨bp, g178⟩ : ∃ z, z = h157.size := ⟨_, rfl⟩
 rw [← g178] at A178 B178 ls178
 have ne_ao_bp : ao ≠ bp := Nat.ne_of_lt (Nat.lt_of_lt_of_le f158.lt (Nat.le_of_eq g178.symm))
 have ne_ae_bp : ae ≠ bp := Nat.ne_of_lt (Nat.lt_of_lt_of_le f168.lt (Nat.le_of_eq g178.symm))
 have ne_bk_bp : bk ≠ bp := Nat.ne_of_lt (Nat.lt_of_lt_of_le f170.lt (Nat.le_of_eq g178.symm))
 have ne_bl_bp : bl ≠ bp := Nat.ne_of_lt (Nat.lt_of_lt_of_le f171.lt (Nat.le_of_eq g178.symm))
 have ne_bc_bp : bc ≠ bp := Nat.ne_of_lt (Nat.lt_of_lt_of_le f172.lt (Nat.le_of_eq g178.symm))
 have ne_bf_bp : bf ≠ bp := Nat.ne_of_lt (Nat.lt_of_lt_of_le f173.lt (Nat.le_of_eq g178.symm))
 have g_bp : n0 ≤ bp := Nat.le_trans z175 (Nat.le_of_eq g178.symm)
 have f179 := f158.ext E178
 have f180 := f159.ext E178
 have f181 := f160.ext E178
 have f182 := f161.ext E178
 have f183 := f162.ext E178
 have f184 := f163.ext E178
 have f185 := f164.ext E178
 have f186 := f165.ext E178
 have f187 := f166.ext E178
 have f188 := f167.ext E178
 have f189 := f168.ext E178
 have f190 := f169.ext E178
 have f191 := f170.ext E178
 have f192 := f171.ext E178
 have f193 := f172.ext E178
 have f194 := f173.ext E178
 have f195 := f174.ext E178
 have z196 := Nat.le_trans z175 E178.1
 have f197 : own_Ra Z h178 bp .long "[J" ev (fun _ => .null) := own_Ra.new A178 O178 (vv.2) (vv.1)
 have st198 := fun t kt => st177 t (ls178 t kt)
 obtain ⟨T199, h199, X199, e199, W199, ls199⟩ := putF X178 hx hZ hown (host := "") (Or.inl (own_w hw 32 rfl)) Via.refl e178 f184 f188 (Or.inr ⟨(own_w hw 33 rfl), rfl, hnm⟩) (own_w hw 11 rfl) (ty := (.array (.array .long))) (by decide) rfl rfl (g := (mkF m 222 #[rv ao, rv ae, iv (Int32.ofNat ev), iv 1, rv bf, iv 0, .unset] [.ref bp, .ref ao])) rfl rfl (hb hby d3_222)
 have N199 := Fr.snoc X199 N157 g_ao
 have f200 := f179.other W199 (Or.inr (own_s20_33 hw))
 have f201 := f180.other W199 (Or.inr (own_s22_33 hw))
 have f202 := f181.other W199 (Or.inr (own_s24_33 hw))
 have f203 := f182.other W199 (Or.inr (own_s26_33 hw))
 have f204 := f183.other W199 (Or.inr (own_s29_33 hw))
 have f205 := f184.same W199
 have f206 := f185.other W199 (Or.inr (own_s35_33 hw))
 have f207 := f186.other W199 (Or.inr (own_s46_33 hw))
 have f208 := f187.other W199 (Or.inr (own_s66_33 hw))
 have f209 := f188.wr W199
 have f210 := f189.other W199 (Ne.symm ne_ao_ae)
 have f211 := f190.wr W199 g_ao
 have f212 := f191.other W199 (Ne.symm ne_ao_bk)
 have f213 := f192.other W199 (Ne.symm ne_ao_bl)
 have f214 := f193.other W199 (Ne.symm ne_ao_bc)
 have f215 := f194.other W199 (Ne.symm ne_ao_bf)
 have f216 := f195.wr W199
 have f217 := f197.other W199 (Ne.symm ne_ao_bp)
 have z218 := Nat.le_trans z196 (Keep.of_wr W199).1
 have st219 := fun t kt => st198 t (ls199 t kt)
 have st220 : own_K p e below T199 m 227 #[rv ao, rv ae, iv (Int32.ofNat ev), iv 1, rv bf, iv 0, .unset] [.int (Int32.ofNat ev), .ref ao] B0 := fun t kt => st219 t (by
  refine XS.aloadN X199.here hx rfl (hb hby d3_225) rfl rfl ?_
  refine XS.iloadN X199.here hx rfl (hb hby d3_226) rfl ?_
  exact kt)
 obtain ⟨T221, h221, c221, X221, e221, E221, A221, ls221⟩ := newP X199 hx hZ (own_w hw 6 rfl) e199 (g := (mkF m 227 #[rv ao, rv ae, iv (Int32.ofNat ev), iv 1, rv bf, iv 0, .unset] [.int (Int32.ofNat ev), .ref ao])) rfl (hb hby d3_227) rfl (vv.2) (cap := 3) (by rw [vv.1]; exact hev) (by decide) (by decide) (by decide)
 obtain ⟨bq, g221⟩ : ∃ z, z = h199.size := ⟨_, rfl⟩
 rw [← g221] at A221 ls221
 have ne_ao_bq : ao ≠ bq := Nat.ne_of_lt (Nat.lt_of_lt_of_le f200.lt (Nat.le_of_eq g221.symm))
 have ne_ae_bq : ae ≠ bq := Nat.ne_of_lt (Nat.lt_of_lt_of_le f210.lt (Nat.le_of_eq g221.symm))
 have ne_bk_bq : bk ≠ bq := Nat.ne_of_lt (Nat.lt_of_lt_of_le f212.lt (Nat.le_of_eq g221.symm))
 have ne_bl_bq : bl ≠ bq := Nat.ne_of_lt (Nat.lt_of_lt_of_le f213.lt (Nat.le_of_eq g221.symm))
 have ne_bc_bq : bc ≠ bq := Nat.ne_of_lt (Nat.lt_of_lt_of_le f214.lt (Nat.le_of_eq g221.symm))
 have ne_bf_bq : bf ≠ bq := Nat.ne_of_lt (Nat.lt_of_lt_of_le f215.lt (Nat.le_of_eq g221.symm))
 have ne_bp_bq : bp ≠ bq := Nat.ne_of_lt (Nat.lt_of_lt_of_le f217.lt (Nat.le_of_eq g221.symm))
 have g_bq : n0 ≤ bq := Nat.le_trans z218 (Nat.le_of_eq g221.symm)
 have f222 := f200.ext E221
 have f223 := f201.ext E221
 have f224 := f202.ext E221
 have f225 := f203.ext E221
 have f226 := f204.ext E221
 have f227 := f205.ext E221
 have f228 := f206.ext E221
 have f229 := f207.ext E221
 have f230 := f208.ext E221
 have f231 := f209.ext E221
 have f233 := f211.ext E221
 have f234 := f212.ext E221
 have f235 := f213.ext E221
 have f236 := f214.ext E221
 have f237 := f215.ext E221
 have f238 := f216.ext E221
 have f239 := f217.ext E221
 have z240 := Nat.le_trans z218 E221.1
 have f241 : own_Av Z h221 bq .int ev (fun _ => (.int 0)) := own_Av.new A221 (vv.2) (vv.1)
 have st242 := fun t kt => st220 t (ls221 t kt)
 obtain ⟨T243, h243, X243, e243, W243, ls243⟩ := putF X221 hx hZ hown (host := "") (Or.inl (own_w hw 34 rfl)) Via.refl e221 f228 f231 (Or.inr ⟨(own_w hw 35 rfl), rfl, hnm⟩) (own_w hw 11 rfl) (ty := (.array .int)) (by decide) rfl rfl (g := (mkF m 229 #[rv ao, rv ae, iv (Int32.ofNat ev), iv 1, rv bf, iv 0, .unset] [.ref bq, .ref ao])) rfl rfl (hb hby d3_229)
 have N243 := Fr.snoc X243 N199 g_ao
 have f244 := f222.other W243 (Or.inr (own_s20_35 hw))
 have f245 := f223.other W243 (Or.inr (own_s22_35 hw))
 have f246 := f224.other W243 (Or.inr (own_s24_35 hw))
 have f247 := f225.other W243 (Or.inr (own_s26_35 hw))
 have f248 := f226.other W243 (Or.inr (own_s29_35 hw))
 have f249 := f227.other W243 (Or.inr (own_s33_35 hw))
 have f250 := f228.same W243
 have f251 := f229.other W243 (Or.inr (own_s46_35 hw))
 have f252 := f230.other W243 (Or.inr (own_s66_35 hw))
 have f253 := f231.wr W243
 have f255 := f233.wr W243 g_ao
 have f256 := f234.other W243 (Ne.symm ne_ao_bk)
 have f257 := f235.other W243 (Ne.symm ne_ao_bl)
 have f258 := f236.other W243 (Ne.symm ne_ao_bc)
 have f259 := f237.other W243 (Ne.symm ne_ao_bf)
 have f260 := f238.wr W243
 have f261 := f239.other W243 (Ne.symm ne_ao_bp)
 have f262 := f241.other W243 (Ne.symm ne_ao_bq)
 have z263 := Nat.le_trans z240 (Keep.of_wr W243).1
 have st264 := fun t kt => st242 t (ls243 t kt)
 have st265 : own_K p e below T243 m 235 #[rv ao, rv ae, iv (Int32.ofNat ev), iv 1, rv bf, iv (Int32.ofNat 0), .unset] [] B0 := fun t kt => st264 t (by
  refine XS.iconst X243.here hx rfl (hb hby d3_232) ?_
  refine XS.istore X243.here hx rfl (hb hby d3_233) rfl (l' := #[rv ao, rv ae, iv (Int32.ofNat ev), iv 1, rv bf, iv 0, .unset]) rfl ?_
  show own_At p e below T243 m 235 #[rv ao, rv ae, iv (Int32.ofNat ev), iv 1, rv bf, iv 0, .unset] [] _
  rw [show (0 : Int32) = (Int32.ofNat 0) from (rfl)]
  exact kt)
 have f_bf := f259.congr (g := fun q => .long ((fun _ => 0) q)) (fun q hq => rfl)
 obtain ⟨T266, L266, h266, X266, e266, N266, Z266, ⟨Sm266, Pd266⟩, ls266⟩ := own_loopC ev 1 (fun _ => 0) ao ae bf bp bq (0 : Int32) (1 : Int32) (.unset) 9 85 hx hZ hw hby hml hown hev (by decide) ne_ao_bp ne_ao_bq ne_bp_bq ne_bf_bp ne_bf_bq ne_ao_bf g_bp g_bq (by decide) (by decide) (by decide) (by decide) ev 0 (Nat.zero_add _) 6 73 _ _ _ X243 e243 N243 z263 ⟨f253, f249, f250, f248, f260, f_bf, by omega, by omega, ⟨fun _ => 0, f261.congr (fun q hq => (if_neg (Nat.not_lt_zero q)).symm), fun q hq => absurd hq (Nat.not_lt_zero q)⟩, fun _ => 0, f262⟩
 have np_ao : ¬ (ao = bp ∨ ao = bq) := fun z => z.elim ne_ao_bp ne_ao_bq
 have np_ae : ¬ (ae = bp ∨ ae = bq) := fun z => z.elim ne_ae_bp ne_ae_bq
 have np_bk : ¬ (bk = bp ∨ bk = bq) := fun z => z.elim ne_bk_bp ne_bk_bq
 have np_bl : ¬ (bl = bp ∨ bl = bq) := fun z => z.elim ne_bl_bp ne_bl_bq
 have np_bc : ¬ (bc = bp ∨ bc = bq) := fun z => z.elim ne_bc_bp ne_bc_bq
 have np_bf : ¬ (bf = bp ∨ bf = bq) := fun z => z.elim ne_bf_bp ne_bf_bq
 have f267 := own_FldSm f244 Sm266 (np_ao)
 have f268 := own_FldSm f245 Sm266 (np_ao)
 have f269 := own_FldSm f246 Sm266 (np_ao)
 have f270 := own_FldSm f247 Sm266 (np_ao)
 have f271 := own_FldSm f248 Sm266 (np_ao)
 have f272 := own_FldSm f249 Sm266 (np_ao)
 have f273 := own_FldSm f250 Sm266 (np_ao)
 have f274 := own_FldSm f251 Sm266 (np_ao)
 have f275 := own_FldSm f252 Sm266 (np_ao)
 have f276 := own_ExaSm f253 Sm266 (np_ao)
 have f278 := f255.trans (own_Sm.mono Sm266 (fun x hx => hx.elim (fun e => e ▸ g_bp) fun e => e ▸ g_bq))
 have f279 := f256.sm Sm266 (np_bk)
 have f280 := f257.sm Sm266 (np_bl)
 have f281 := f258.sm Sm266 (np_bc)
 have st284 := fun t kt => st265 t (ls266 t kt)
 obtain ⟨fs, hr, hrun, hended, hW, hsame⟩ := X266.leave (v := none) (fun _ => rfl)
 subst hB0
 refine ⟨_, _, st284 _ ?_, hrun, hended, _, _, rfl, ?_, ⟨_, rfl⟩, hW, hsame.mono (by decide) (by decide)⟩
 ·exact X266.returnOut hx Bd.returns (hb hby d3_273) hr
 ·show Q_rm_in0 Z ao ae ev fe h0 n0 _ T266.heap _
  rw [e266]
  exact ⟨rfl, N266, Z266, f278, f276, f274, f271, f267, ⟨_, f275⟩, bk, bl, bc, bp, bq, by
   intro x hx
   simp only [List.mem_cons, List.not_mem_nil, or_false] at hx
   rcases hx with rfl | rfl | rfl | rfl | rfl | rfl
   ·exact g_ao
   ·exact g_bk
   ·exact g_bl
   ·exact g_bc
   ·exact g_bp
   ·exact g_bq, by simp [ne_ao_bk, ne_ao_bl, ne_ao_bc, ne_ao_bp, ne_ao_bq, ne_bk_bl, ne_bk_bc, ne_bk_bp, ne_bk_bq, ne_bl_bc, ne_bl_bp, ne_bl_bq, ne_bc_bp, ne_bc_bq, ne_bp_bq], f268, f269, f270, f272, f273, f279.congr (fun q hq => match q, hq with | 0, _ => rfl | _ + 1, z => absurd z (by omega)), f280.congr (fun q hq => match q, hq with | 0, _ => rfl | _ + 1, z => absurd z (by omega)), f281.congr (fun q hq => by first | rfl | (simp only [Nat.mul_zero, Nat.zero_add, Nat.mul_one]; (repeat' split) <;> rfl)), Pd266⟩
def Q_rm_in1 (Z : State) (ao : Addr) (ae : Addr) (ev : Nat) (fe : Nat → Value) (v1 : Int32) (c1 : Int32) (h0 : Heap) (n0 : Nat) (v : Option Value) (h : Heap) (L : List Loc) : Prop := v = none ∧ Fr n0 L ∧ n0 ≤ h.size ∧ own_Sm (fun x => n0 ≤ x) h0 h ∧ own_N Z h n0 ao 1 1 (fun q => if q = 0 then own_key v1 else 0) (fun _ => 0) (fun x => if x = own_pl v1 then c1 else 0) 1 (-1) ev
set_option maxRecDepth 65536 in
set_option maxHeartbeats 40000000 in
theorem rm_in1 (l : Launch) (Z : State) (a0 : Array Value) (hw : ∀ d ∈ tables_1, d.before a0 Z = true) (ws : List Jvm.Cond) (ao : Addr) (ae : Addr) (ev : Nat) (fe : Nat → Value) (v1 : Int32) (c1 : Int32) (h0 : Heap) (n0 : Nat) (Z0 : n0 ≤ h0.size) (F_lastKey_ao : Fld Z h0 ao "com/example/saturation/saturation/OpenNode" "lastKey" "I" (.int 0)) (F_keys_ao : Fld Z h0 ao "com/example/saturation/saturation/OpenNode" "keys" "[I" .null) (F_slots_ao : Fld Z h0 ao "com/example/saturation/saturation/OpenNode" "slots" "[I" .null) (F_children_ao : Fld Z h0 ao "com/example/saturation/saturation/OpenNode" "children" "[I" .null) (F_count_ao : Fld Z h0 ao "com/example/saturation/saturation/OpenNode" "count" "I" (.int 0)) (F_pending_ao : Fld Z h0 ao "com/example/saturation/saturation/OpenNode" "pending" "[[J" .null) (F_pendingCount_ao : Fld Z h0 ao "com/example/saturation/saturation/OpenNode" "pendingCount" "[I" .null) (F_blocks_ao : Fld Z h0 ao "com/example/saturation/saturation/OpenNode" "blocks" "I" (.int 0)) (F_lastPosition_ao : Fld Z h0 ao "com/example/saturation/saturation/OpenNode" "lastPosition" "I" (.int 0)) (E_ao : Exa Z h0 ao "com/example/saturation/saturation/OpenNode") (g_ao : n0 ≤ ao) (Ae : own_Av Z h0 ae .int 2 fe) (ne_ao_ae : ao ≠ ae) (hev : ev ≤ 3) (hv0 : fe 0 = .int v1) (hc0 : fe 1 = .int c1) :
  MetFree l (⟨"com/example/saturation/saturation/OpenNode", "<init>", "([II)V"⟩ : MethodName) (head1 (Jvm.Cond.code (⟨"com/example/saturation/saturation/OpenNode", "<init>", "([II)V"⟩ : MethodName) prog_38_method_1_code 7 none :: ws) ({ frames := 1, cells := 9, slots := 85, locals := 30 } : Room)) (fun a U => a = #[.ref ao, .ref ae, .int (Int32.ofNat ev)] ∧ Z.Warmed39 U.vm ∧ U.heap = h0) (fun _ _ _ _ _ => True) (fun _ U o U' => ∃ v L, o = .returned v ∧ Q_rm_in1 Z ao ae ev fe v1 c1 h0 n0 v U'.heap L ∧ FrameEnd U o U' L ({ frames := 1, cells := 9, slots := 85, locals := 30 } : Room).cells ({ frames := 1, cells := 9, slots := 85, locals := 30 } : Room).slots) := by
 refine MetFree.of_bodySF (plainFor_of_name own_pn1) hisR ?_
 intro p e s m args below meth c s₁ Bd hml0 hP hK
 obtain ⟨rfl, hZ, hh⟩ := hP
 have hx := Bd.exec
 have hby := Bd.bytes
 have hml : c.maxLocals = 7 := hml0
 have hown : s.vm.findClass "com/example/saturation/saturation/OpenNode" = some m.cls := findClass_of_methodNamed Bd.named
 have hnm := (name_of_methodNamed Bd.named Bd.method).1
 have X0 : Stand p l e ({ frames := 1, cells := 9, slots := 85, locals := 30 } : Room) s m #[.ref ao, .ref ae, .int (Int32.ofNat ev)] below meth c s₁ [] 0 0 := Stand.of_body Bd
 have e0 : s₁.heap = h0 := by rw [← hh, Bd.state]; rfl
 have N0 := Fr.nil n0
 obtain ⟨B0, hB0⟩ : ∃ B, B = (s₁.setTop (entryFrame m #[.ref ao, .ref ae, .int (Int32.ofNat ev)] 7)) := ⟨_, rfl⟩
 have st0 : own_K p e below s₁ m 0 #[rv ao, rv ae, iv (Int32.ofNat ev), .unset, .unset, .unset, .unset] [] B0 := fun t kk0 => hB0 ▸ castTop (own_ef3_RRI m ao ae (Int32.ofNat ev)) kk0
 have S0 : own_Sm (fun x => n0 ≤ x) h0 h0 := own_Sm.refl
 have st1 : own_K p e below s₁ m 1 #[rv ao, rv ae, iv (Int32.ofNat ev), .unset, .unset, .unset, .unset] [.ref ao] B0 := fun t kt => st0 t (by
  refine XS.aloadN X0.here hx rfl (hb hby d3_0) rfl rfl ?_
  exact kt)
 obtain ⟨T2, X2, e2, ls2⟩ := initO X0 hx hZ hown (own_w hw 16 rfl) (own_w hw 17 rfl) (own_w hw 18 rfl) e0 (g := (mkF m 1 #[rv ao, rv ae, iv (Int32.ofNat ev), .unset, .unset, .unset, .unset] [.ref ao])) rfl (by rw [hml]; rfl) rfl (hb hby d3_1) (by decide) (W := 0) (by show 2 * 0 + _ ≤ _; exact Nat.le_of_eq rfl) (by decide)
 have st3 := fun t kt => st1 t (ls2 t kt)
 have st4 : own_K p e below T2 m 6 #[rv ao, rv ae, iv (Int32.ofNat ev), .unset, .unset, .unset, .unset] [.int (-1 : Int32), .ref ao] B0 := fun t kt => st3 t (by
  refine XS.aloadN X2.here hx rfl (hb hby d3_4) rfl rfl ?_
  refine XS.iconst X2.here hx rfl (hb hby d3_5) ?_
  exact kt)
 obtain ⟨T5, h5, X5, e5, W5, ls5⟩ := putF X2 hx hZ hown (host := "") (Or.inl (own_w hw 19 rfl)) Via.refl e2 F_lastKey_ao E_ao (Or.inl (own_w hw 20 rfl)) (own_w hw 11 rfl) (ty := .int) (by decide) rfl rfl (g := (mkF m 6 #[rv ao, rv ae, iv (Int32.ofNat ev), .unset, .unset, .unset, .unset] [.int (-1 : Int32), .ref ao])) rfl rfl (hb hby d3_6)
 have N5 := Fr.snoc X5 N0 g_ao
 have f6 := F_lastKey_ao.same W5
 have f7 := F_keys_ao.other W5 (Or.inr (own_s22_20 hw))
 have f8 := F_slots_ao.other W5 (Or.inr (own_s24_20 hw))
 have f9 := F_children_ao.other W5 (Or.inr (own_s26_20 hw))
 have f10 := F_count_ao.other W5 (Or.inr (own_s29_20 hw))
 have f11 := F_pending_ao.other W5 (Or.inr (own_s33_20 hw))
 have f12 := F_pendingCount_ao.other W5 (Or.inr (own_s35_20 hw))
 have f13 := F_blocks_ao.other W5 (Or.inr (own_s46_20 hw))
 have f14 := F_lastPosition_ao.other W5 (Or.inr (own_s66_20 hw))
 have f15 := E_ao.wr W5
 have f16 := Ae.other W5 (Ne.symm ne_ao_ae)
 have f17 := S0.wr W5 g_ao
 have z18 := Nat.le_trans Z0 (Keep.of_wr W5).1
 have st19 := fun t kt => st4 t (ls5 t kt)
 have st20 : own_K p e below T5 m 17 #[rv ao, rv ae, iv (Int32.ofNat ev), iv 1, iv 2, .unset, .unset] [.ref ae, .int 2] B0 := fun t kt => st19 t (by
  refine XS.iconst X5.here hx rfl (hb hby d3_9) ?_
  refine XS.istoreN X5.here hx rfl (hb hby d3_10) rfl (l' := #[rv ao, rv ae, iv (Int32.ofNat ev), iv 1, .unset, .unset, .unset]) rfl ?_
  refine XS.iconst X5.here hx rfl (hb hby d3_11) ?_
  refine XS.istore X5.here hx rfl (hb hby d3_12) rfl (l' := #[rv ao, rv ae, iv (Int32.ofNat ev), iv 1, iv 2, .unset, .unset]) rfl ?_
  refine XS.iload X5.here hx rfl (hb hby d3_14) rfl ?_
  refine XS.aloadN X5.here hx rfl (hb hby d3_16) rfl rfl ?_
  exact kt)
 have ls21 := own_alen X5 hx hZ e5 f16 (g := (mkF m 17 #[rv ao, rv ae, iv (Int32.ofNat ev), iv 1, iv 2, .unset, .unset] [.ref ae, .int 2])) rfl rfl (hb hby d3_17)
 have st22 := fun t kt => st20 t (ls21 t kt)
 have hc23 : ¬ ((2 : Int32) < (2 : Int32)) := by decide
 have st24 : own_K p e below T5 m 51 #[rv ao, rv ae, iv (Int32.ofNat ev), iv 1, iv 2, .unset, .unset] [.int 1, .ref ao] B0 := fun t kt => st22 t (by
  refine XS.icmpYes X5.here hx rfl (pc0 := 18) (pc' := 49) rfl (hb hby d3_18) rfl (flt hc23).2.1 (by decide) (by decide) ?_
  refine XS.aloadN X5.here hx rfl (hb hby d3_49) rfl rfl ?_
  refine XS.iloadN X5.here hx rfl (hb hby d3_50) rfl ?_
  exact kt)
 obtain ⟨T25, h25, c25, X25, e25, E25, A25, ls25⟩ := newP X5 hx hZ (own_w hw 6 rfl) e5 (g := (mkF m 51 #[rv ao, rv ae, iv (Int32.ofNat ev), iv 1, iv 2, .unset, .unset] [.int 1, .ref ao])) rfl (hb hby d3_51) rfl (by decide) (cap := 1) (by decide) (by decide) (by decide) (by decide)
 obtain ⟨bk, g25⟩ : ∃ z, z = h5.size := ⟨_, rfl⟩
 rw [← g25] at A25 ls25
 have ne_ao_bk : ao ≠ bk := Nat.ne_of_lt (Nat.lt_of_lt_of_le f6.lt (Nat.le_of_eq g25.symm))
 have ne_ae_bk : ae ≠ bk := Nat.ne_of_lt (Nat.lt_of_lt_of_le f16.lt (Nat.le_of_eq g25.symm))
 have g_bk : n0 ≤ bk := Nat.le_trans z18 (Nat.le_of_eq g25.symm)
 have f26 := f6.ext E25
 have f27 := f7.ext E25
 have f28 := f8.ext E25
 have f29 := f9.ext E25
 have f30 := f10.ext E25
 have f31 := f11.ext E25
 have f32 := f12.ext E25
 have f33 := f13.ext E25
 have f34 := f14.ext E25
 have f35 := f15.ext E25
 have f36 := f16.ext E25
 have f37 := f17.ext E25
 have z38 := Nat.le_trans z18 E25.1
 have f39 : own_Av Z h25 bk .int 1 (fun _ => (.int 0)) := own_Av.new A25 (by decide) (by decide)
 have st40 := fun t kt => st24 t (ls25 t kt)
 obtain ⟨T41, h41, X41, e41, W41, ls41⟩ := putF X25 hx hZ hown (host := "") (Or.inl (own_w hw 21 rfl)) Via.refl e25 f27 f35 (Or.inl (own_w hw 22 rfl)) (own_w hw 11 rfl) (ty := (.array .int)) (by decide) rfl rfl (g := (mkF m 53 #[rv ao, rv ae, iv (Int32.ofNat ev), iv 1, iv 2, .unset, .unset] [.ref bk, .ref ao])) rfl rfl (hb hby d3_53)
 have N41 := Fr.snoc X41 N5 g_ao
 have f42 := f26.other W41 (Or.inr (own_s20_22 hw))
 have f43 := f27.same W41
 have f44 := f28.other W41 (Or.inr (own_s24_22 hw))
 have f45 := f29.other W41 (Or.inr (own_s26_22 hw))
 have f46 := f30.other W41 (Or.inr (own_s29_22 hw))
 have f47 := f31.other W41 (Or.inr (own_s33_22 hw))
 have f48 := f32.other W41 (Or.inr (own_s35_22 hw))
 have f49 := f33.other W41 (Or.inr (own_s46_22 hw))
 have f50 := f34.other W41 (Or.inr (own_s66_22 hw))
 have f51 := f35.wr W41
 have f52 := f36.other W41 (Ne.symm ne_ao_ae)
 have f53 := f37.wr W41 g_ao
 have f54 := f39.other W41 (Ne.symm ne_ao_bk)
 have z55 := Nat.le_trans z38 (Keep.of_wr W41).1
 have st56 := fun t kt => st40 t (ls41 t kt)
 have st57 : own_K p e below T41 m 58 #[rv ao, rv ae, iv (Int32.ofNat ev), iv 1, iv 2, .unset, .unset] [.int 1, .ref ao] B0 := fun t kt => st56 t (by
  refine XS.aloadN X41.here hx rfl (hb hby d3_56) rfl rfl ?_
  refine XS.iloadN X41.here hx rfl (hb hby d3_57) rfl ?_
  exact kt)
 obtain ⟨T58, h58, c58, X58, e58, E58, A58, ls58⟩ := newP X41 hx hZ (own_w hw 6 rfl) e41 (g := (mkF m 58 #[rv ao, rv ae, iv (Int32.ofNat ev), iv 1, iv 2, .unset, .unset] [.int 1, .ref ao])) rfl (hb hby d3_58) rfl (by decide) (cap := 1) (by decide) (by decide) (by decide) (by decide)
 obtain ⟨bl, g58⟩ : ∃ z, z = h41.size := ⟨_, rfl⟩
 rw [← g58] at A58 ls58
 have ne_ao_bl : ao ≠ bl := Nat.ne_of_lt (Nat.lt_of_lt_of_le f42.lt (Nat.le_of_eq g58.symm))
 have ne_ae_bl : ae ≠ bl := Nat.ne_of_lt (Nat.lt_of_lt_of_le f52.lt (Nat.le_of_eq g58.symm))
 have ne_bk_bl : bk ≠ bl := Nat.ne_of_lt (Nat.lt_of_lt_of_le f54.lt (Nat.le_of_eq g58.symm))
 have g_bl : n0 ≤ bl := Nat.le_trans z55 (Nat.le_of_eq g58.symm)
 have f59 := f42.ext E58
 have f60 := f43.ext E58
 have f61 := f44.ext E58
 have f62 := f45.ext E58
 have f63 := f46.ext E58
 have f64 := f47.ext E58
 have f65 := f48.ext E58
 have f66 := f49.ext E58
 have f67 := f50.ext E58
 have f68 := f51.ext E58
 have f69 := f52.ext E58
 have f70 := f53.ext E58
 have f71 := f54.ext E58
 have z72 := Nat.le_trans z55 E58.1
 have f73 : own_Av Z h58 bl .int 1 (fun _ => (.int 0)) := own_Av.new A58 (by decide) (by decide)
 have st74 := fun t kt => st57 t (ls58 t kt)
 obtain ⟨T75, h75, X75, e75, W75, ls75⟩ := putF X58 hx hZ hown (host := "") (Or.inl (own_w hw 23 rfl)) Via.refl e58 f61 f68 (Or.inl (own_w hw 24 rfl)) (own_w hw 11 rfl) (ty := (.array .int)) (by decide) rfl rfl (g := (mkF m 60 #[rv ao, rv ae, iv (Int32.ofNat ev), iv 1, iv 2, .unset, .unset] [.ref bl, .ref ao])) rfl rfl (hb hby d3_60)
 have N75 := Fr.snoc X75 N41 g_ao
 have f76 := f59.other W75 (Or.inr (own_s20_24 hw))
 have f77 := f60.other W75 (Or.inr (own_s22_24 hw))
 have f78 := f61.same W75
 have f79 := f62.other W75 (Or.inr (own_s26_24 hw))
 have f80 := f63.other W75 (Or.inr (own_s29_24 hw))
 have f81 := f64.other W75 (Or.inr (own_s33_24 hw))
 have f82 := f65.other W75 (Or.inr (own_s35_24 hw))
 have f83 := f66.other W75 (Or.inr (own_s46_24 hw))
 have f84 := f67.other W75 (Or.inr (own_s66_24 hw))
 have f85 := f68.wr W75
 have f86 := f69.other W75 (Ne.symm ne_ao_ae)
 have f87 := f70.wr W75 g_ao
 have f88 := f71.other W75 (Ne.symm ne_ao_bk)
 have f89 := f73.other W75 (Ne.symm ne_ao_bl)
 have z90 := Nat.le_trans z72 (Keep.of_wr W75).1
 have st91 := fun t kt => st74 t (ls75 t kt)
 have st92 : own_K p e below T75 m 68 #[rv ao, rv ae, iv (Int32.ofNat ev), iv 1, iv 2, .unset, .unset] [.int 64, .ref ao] B0 := fun t kt => st91 t (by
  refine XS.aloadN X75.here hx rfl (hb hby d3_63) rfl rfl ?_
  refine XS.iloadN X75.here hx rfl (hb hby d3_64) rfl ?_
  refine XS.bipush X75.here hx rfl (hb hby d3_65) ?_
  refine XS.ishl X75.here hx rfl (hb hby d3_67) rfl ?_
  show own_At p e below T75 m 68 #[rv ao, rv ae, iv (Int32.ofNat ev), iv 1, iv 2, .unset, .unset] [(.int ((1 : Int32) <<< ((6 : Int32) &&& 31))), .ref ao] _
  rw [show ((1 : Int32) <<< ((6 : Int32) &&& 31)) = (64 : Int32) from (by decide +kernel)]
  exact kt)
 obtain ⟨T93, h93, c93, X93, e93, E93, A93, ls93⟩ := newP X75 hx hZ (own_w hw 6 rfl) e75 (g := (mkF m 68 #[rv ao, rv ae, iv (Int32.ofNat ev), iv 1, iv 2, .unset, .unset] [.int 64, .ref ao])) rfl (hb hby d3_68) rfl (by decide) (cap := 64) (by decide) (by decide) (by decide) (by decide)
 obtain ⟨bc, g93⟩ : ∃ z, z = h75.size := ⟨_, rfl⟩
 rw [← g93] at A93 ls93
 have ne_ao_bc : ao ≠ bc := Nat.ne_of_lt (Nat.lt_of_lt_of_le f76.lt (Nat.le_of_eq g93.symm))
 have ne_ae_bc : ae ≠ bc := Nat.ne_of_lt (Nat.lt_of_lt_of_le f86.lt (Nat.le_of_eq g93.symm))
 have ne_bk_bc : bk ≠ bc := Nat.ne_of_lt (Nat.lt_of_lt_of_le f88.lt (Nat.le_of_eq g93.symm))
 have ne_bl_bc : bl ≠ bc := Nat.ne_of_lt (Nat.lt_of_lt_of_le f89.lt (Nat.le_of_eq g93.symm))
 have g_bc : n0 ≤ bc := Nat.le_trans z90 (Nat.le_of_eq g93.symm)
 have f94 := f76.ext E93
 have f95 := f77.ext E93
 have f96 := f78.ext E93
 have f97 := f79.ext E93
 have f98 := f80.ext E93
 have f99 := f81.ext E93
 have f100 := f82.ext E93
 have f101 := f83.ext E93
 have f102 := f84.ext E93
 have f103 := f85.ext E93
 have f104 := f86.ext E93
 have f105 := f87.ext E93
 have f106 := f88.ext E93
 have f107 := f89.ext E93
 have z108 := Nat.le_trans z90 E93.1
 have f109 : own_Av Z h93 bc .int 64 (fun _ => (.int 0)) := own_Av.new A93 (by decide) (by decide)
 have st110 := fun t kt => st92 t (ls93 t kt)
 obtain ⟨T111, h111, X111, e111, W111, ls111⟩ := putF X93 hx hZ hown (host := "") (Or.inl (own_w hw 25 rfl)) Via.refl e93 f97 f103 (Or.inl (own_w hw 26 rfl)) (own_w hw 11 rfl) (ty := (.array .int)) (by decide) rfl rfl (g := (mkF m 70 #[rv ao, rv ae, iv (Int32.ofNat ev), iv 1, iv 2, .unset, .unset] [.ref bc, .ref ao])) rfl rfl (hb hby d3_70)
 have N111 := Fr.snoc X111 N75 g_ao
 have f112 := f94.other W111 (Or.inr (own_s20_26 hw))
 have f113 := f95.other W111 (Or.inr (own_s22_26 hw))
 have f114 := f96.other W111 (Or.inr (own_s24_26 hw))
 have f115 := f97.same W111
 have f116 := f98.other W111 (Or.inr (own_s29_26 hw))
 have f117 := f99.other W111 (Or.inr (own_s33_26 hw))
 have f118 := f100.other W111 (Or.inr (own_s35_26 hw))
 have f119 := f101.other W111 (Or.inr (own_s46_26 hw))
 have f120 := f102.other W111 (Or.inr (own_s66_26 hw))
 have f121 := f103.wr W111
 have f122 := f104.other W111 (Ne.symm ne_ao_ae)
 have f123 := f105.wr W111 g_ao
 have f124 := f106.other W111 (Ne.symm ne_ao_bk)
 have f125 := f107.other W111 (Ne.symm ne_ao_bl)
 have f126 := f109.other W111 (Ne.symm ne_ao_bc)
 have z127 := Nat.le_trans z108 (Keep.of_wr W111).1
 have st128 := fun t kt => st110 t (ls111 t kt)
 have st129 : own_K p e below T111 m 74 #[rv ao, rv ae, iv (Int32.ofNat ev), iv 1, iv 2, .unset, .unset] [.int 1] B0 := fun t kt => st128 t (by
  refine XS.iloadN X111.here hx rfl (hb hby d3_73) rfl ?_
  exact kt)
 obtain ⟨T130, h130, c130, X130, e130, E130, A130, B130, ls130⟩ := newPE X111 hx hZ (own_w hw 27 rfl) e111 (g := (mkF m 74 #[rv ao, rv ae, iv (Int32.ofNat ev), iv 1, iv 2, .unset, .unset] [.int 1])) rfl (hb hby d3_74) rfl (by decide) (cap := 1) (by decide) (by decide) (by decide) (by decide) (ad := "[J") (by decide)
 obtain ⟨bf, g130⟩ : ∃ z, z = h111.size := ⟨_, rfl⟩
 rw [← g130] at A130 B130 ls130
 have ne_ao_bf : ao ≠ bf := Nat.ne_of_lt (Nat.lt_of_lt_of_le f112.lt (Nat.le_of_eq g130.symm))
 have ne_ae_bf : ae ≠ bf := Nat.ne_of_lt (Nat.lt_of_lt_of_le f122.lt (Nat.le_of_eq g130.symm))
 have ne_bk_bf : bk ≠ bf := Nat.ne_of_lt (Nat.lt_of_lt_of_le f124.lt (Nat.le_of_eq g130.symm))
 have ne_bl_bf : bl ≠ bf := Nat.ne_of_lt (Nat.lt_of_lt_of_le f125.lt (Nat.le_of_eq g130.symm))
 have ne_bc_bf : bc ≠ bf := Nat.ne_of_lt (Nat.lt_of_lt_of_le f126.lt (Nat.le_of_eq g130.symm))
 have g_bf : n0 ≤ bf := Nat.le_trans z127 (Nat.le_of_eq g130.symm)
 have f131 := f112.ext E130
 have f132 := f113.ext E130
 have f133 := f114.ext E130
 have f134 := f115.ext E130
 have f135 := f116.ext E130
 have f136 := f117.ext E130
 have f137 := f118.ext E130
 have f138 := f119.ext E130
 have f139 := f120.ext E130
 have f140 := f121.ext E130
 have f141 := f122.ext E130
 have f142 := f123.ext E130
 have f143 := f124.ext E130
 have f144 := f125.ext E130
 have f145 := f126.ext E130
 have z146 := Nat.le_trans z127 E130.1
 have f147 : own_Av Z h130 bf .long 1 (fun _ => (.long (0 : Int64))) := own_Av.new A130 (by decide) (by decide)
 have st148 := fun t kt => st129 t (ls130 t kt)
 have st149 : own_K p e below T130 m 84 #[rv ao, rv ae, iv (Int32.ofNat ev), iv 1, rv bf, iv 0, .unset] [.ref ae, .int 0] B0 := fun t kt => st148 t (by
  refine XS.astore X130.here hx rfl (hb hby d3_76) rfl rfl (l' := #[rv ao, rv ae, iv (Int32.ofNat ev), iv 1, rv bf, .unset, .unset]) rfl ?_
  refine XS.iconst X130.here hx rfl (hb hby d3_78) ?_
  refine XS.istore X130.here hx rfl (hb hby d3_79) rfl (l' := #[rv ao, rv ae, iv (Int32.ofNat ev), iv 1, rv bf, iv 0, .unset]) rfl ?_
  refine XS.iload X130.here hx rfl (hb hby d3_81) rfl ?_
  refine XS.aloadN X130.here hx rfl (hb hby d3_83) rfl rfl ?_
  exact kt)
 have ls150 := own_alen X130 hx hZ e130 f141 (g := (mkF m 84 #[rv ao, rv ae, iv (Int32.ofNat ev), iv 1, rv bf, iv 0, .unset] [.ref ae, .int 0])) rfl rfl (hb hby d3_84)
 have st151 := fun t kt => st149 t (ls150 t kt)
 have hc152 : (0 : Int32) < (2 : Int32) := by decide
 have st153 : own_K p e below T130 m 91 #[rv ao, rv ae, iv (Int32.ofNat ev), iv 1, rv bf, iv 0, .unset] [.int 0, .ref ae] B0 := fun t kt => st151 t (by
  refine XS.icmpNo X130.here hx rfl (hb hby d3_85) rfl (tlt hc152).2.1 ?_
  refine XS.aloadN X130.here hx rfl (hb hby d3_88) rfl rfl ?_
  refine XS.iload X130.here hx rfl (hb hby d3_89) rfl ?_
  exact kt)
 have ls154 := own_iaload X130 hx hZ e130 f141 (j := (0 : Int32)) (i := 0) (by decide) (by decide) (by decide) (v := (.int v1)) (hv0) (g := (mkF m 91 #[rv ao, rv ae, iv (Int32.ofNat ev), iv 1, rv bf, iv 0, .unset] [.int 0, .ref ae])) rfl rfl (hb hby d3_91)
 have st155 := fun t kt => st153 t (ls154 t kt)
 obtain ⟨k1, h_k1⟩ : ∃ z : Int32, z = ((v1.toUInt32 >>> ((6 : Int32) &&& 31).toUInt32).toInt32) := ⟨_, rfl⟩
 have st156 : own_K p e below T130 m 98 #[rv ao, rv ae, iv (Int32.ofNat ev), iv 1, rv bf, iv 0, iv k1] [.ref ao] B0 := fun t kt => st155 t (by
  refine XS.bipush X130.here hx rfl (hb hby d3_92) ?_
  refine XS.iushr X130.here hx rfl (hb hby d3_94) rfl ?_
  show own_At p e below T130 m 95 #[rv ao, rv ae, iv (Int32.ofNat ev), iv 1, rv bf, iv 0, .unset] [(.int ((v1.toUInt32 >>> ((6 : Int32) &&& 31).toUInt32).toInt32))] _
  rw [← h_k1]
  refine XS.istore X130.here hx rfl (hb hby d3_95) rfl (l' := #[rv ao, rv ae, iv (Int32.ofNat ev), iv 1, rv bf, iv 0, iv k1]) rfl ?_
  refine XS.aloadN X130.here hx rfl (hb hby d3_97) rfl rfl ?_
  exact kt)
 obtain ⟨T157, X157, e157, ls157⟩ := getF X130 hx hZ hown (host := "") (Or.inl (own_w hw 45 rfl)) Via.refl e130 f138 (g := (mkF m 98 #[rv ao, rv ae, iv (Int32.ofNat ev), iv 1, rv bf, iv 0, iv k1] [.ref ao])) rfl rfl (hb hby d3_98)
 have st158 := fun t kt => st156 t (ls157 t kt)
 have hc159 : (0 : Int32) = (0 : Int32) := rfl
 have st160 : own_K p e below T157 m 121 #[rv ao, rv ae, iv (Int32.ofNat ev), iv 1, rv bf, iv 0, iv k1] [.ref ao] B0 := fun t kt => st158 t (by
  refine XS.ifYes X157.here hx rfl (pc0 := 101) (pc' := 120) rfl (hb hby d3_101) rfl ((if0 _ _).trans (teq hc159).1) (by decide) (by decide) ?_
  refine XS.aloadN X157.here hx rfl (hb hby d3_120) rfl rfl ?_
  exact kt)
 obtain ⟨T161, X161, e161, ls161⟩ := getF X157 hx hZ hown (host := "") (Or.inl (own_w hw 21 rfl)) Via.refl e157 f132 (g := (mkF m 121 #[rv ao, rv ae, iv (Int32.ofNat ev), iv 1, rv bf, iv 0, iv k1] [.ref ao])) rfl rfl (hb hby d3_121)
 have st162 := fun t kt => st160 t (ls161 t kt)
 have st163 : own_K p e below T161 m 125 #[rv ao, rv ae, iv (Int32.ofNat ev), iv 1, rv bf, iv 0, iv k1] [.ref ao, .ref bk] B0 := fun t kt => st162 t (by
  refine XS.aloadN X161.here hx rfl (hb hby d3_124) rfl rfl ?_
  exact kt)
 obtain ⟨T164, X164, e164, ls164⟩ := getF X161 hx hZ hown (host := "") (Or.inl (own_w hw 45 rfl)) Via.refl e161 f138 (g := (mkF m 125 #[rv ao, rv ae, iv (Int32.ofNat ev), iv 1, rv bf, iv 0, iv k1] [.ref ao, .ref bk])) rfl rfl (hb hby d3_125)
 have st165 := fun t kt => st163 t (ls164 t kt)
 have st166 : own_K p e below T164 m 130 #[rv ao, rv ae, iv (Int32.ofNat ev), iv 1, rv bf, iv 0, iv k1] [.int k1, .int 0, .ref bk] B0 := fun t kt => st165 t (by
  refine XS.iload X164.here hx rfl (hb hby d3_128) rfl ?_
  exact kt)
 obtain ⟨T167, h167, X167, e167, W167, B167, ls167⟩ := own_iastore X164 hx hZ e164 f143 (j := (0 : Int32)) (i := 0) (by decide) (by decide) (by decide) (g := (mkF m 130 #[rv ao, rv ae, iv (Int32.ofNat ev), iv 1, rv bf, iv 0, iv k1] [.int k1, .int 0, .ref bk])) rfl rfl (hb hby d3_130)
 have N167 := Fr.snoc X167 N111 g_bk
 have f168 := f131.other W167 (Or.inl ne_ao_bk)
 have f169 := f132.other W167 (Or.inl ne_ao_bk)
 have f170 := f133.other W167 (Or.inl ne_ao_bk)
 have f171 := f134.other W167 (Or.inl ne_ao_bk)
 have f172 := f135.other W167 (Or.inl ne_ao_bk)
 have f173 := f136.other W167 (Or.inl ne_ao_bk)
 have f174 := f137.other W167 (Or.inl ne_ao_bk)
 have f175 := f138.other W167 (Or.inl ne_ao_bk)
 have f176 := f139.other W167 (Or.inl ne_ao_bk)
 have f177 := f140.wr W167
 have f178 := f141.other W167 ne_ae_bk
 have f179 := f142.wr W167 g_bk
 have f180 := f144.other W167 (Ne.symm ne_bk_bl)
 have f181 := f145.other W167 (Ne.symm ne_bk_bc)
 have f182 := f147.other W167 (Ne.symm ne_bk_bf)
 have f183 := B130.wr W167
 have z184 := Nat.le_trans z146 (Keep.of_wr W167).1
 have f185 := B167
 have st186 := fun t kt => st166 t (ls167 t kt)
 have st187 : own_K p e below T167 m 132 #[rv ao, rv ae, iv (Int32.ofNat ev), iv 1, rv bf, iv 0, iv k1] [.ref ao] B0 := fun t kt => st186 t (by
  refine XS.aloadN X167.here hx rfl (hb hby d3_131) rfl rfl ?_
  exact kt)
 obtain ⟨T188, X188, e188, ls188⟩ := getF X167 hx hZ hown (host := "") (Or.inl (own_w hw 23 rfl)) Via.refl e167 f170 (g := (mkF m 132 #[rv ao, rv ae, iv (Int32.ofNat ev), iv 1, rv bf, iv 0, iv k1] [.ref ao])) rfl rfl (hb hby d3_132)
 have st189 := fun t kt => st187 t (ls188 t kt)
 have st190 : own_K p e below T188 m 136 #[rv ao, rv ae, iv (Int32.ofNat ev), iv 1, rv bf, iv 0, iv k1] [.ref ao, .ref bl] B0 := fun t kt => st189 t (by
  refine XS.aloadN X188.here hx rfl (hb hby d3_135) rfl rfl ?_
  exact kt)
 obtain ⟨T191, X191, e191, ls191⟩ := getF X188 hx hZ hown (host := "") (Or.inl (own_w hw 45 rfl)) Via.refl e188 f175 (g := (mkF m 136 #[rv ao, rv ae, iv (Int32.ofNat ev), iv 1, rv bf, iv 0, iv k1] [.ref ao, .ref bl])) rfl rfl (hb hby d3_136)
 have st192 := fun t kt => st190 t (ls191 t kt)
 have st193 : own_K p e below T191 m 140 #[rv ao, rv ae, iv (Int32.ofNat ev), iv 1, rv bf, iv 0, iv k1] [.ref ao, .int 0, .ref bl] B0 := fun t kt => st192 t (by
  refine XS.aloadN X191.here hx rfl (hb hby d3_139) rfl rfl ?_
  exact kt)
 obtain ⟨T194, X194, e194, ls194⟩ := getF X191 hx hZ hown (host := "") (Or.inl (own_w hw 45 rfl)) Via.refl e191 f175 (g := (mkF m 140 #[rv ao, rv ae, iv (Int32.ofNat ev), iv 1, rv bf, iv 0, iv k1] [.ref ao, .int 0, .ref bl])) rfl rfl (hb hby d3_140)
 have st195 := fun t kt => st193 t (ls194 t kt)
 obtain ⟨T196, h196, X196, e196, W196, B196, ls196⟩ := own_iastore X194 hx hZ e194 f180 (j := (0 : Int32)) (i := 0) (by decide) (by decide) (by decide) (g := (mkF m 143 #[rv ao, rv ae, iv (Int32.ofNat ev), iv 1, rv bf, iv 0, iv k1] [.int 0, .int 0, .ref bl])) rfl rfl (hb hby d3_143)
 have N196 := Fr.snoc X196 N167 g_bl
 have f197 := f168.other W196 (Or.inl ne_ao_bl)
 have f198 := f169.other W196 (Or.inl ne_ao_bl)
 have f199 := f170.other W196 (Or.inl ne_ao_bl)
 have f200 := f171.other W196 (Or.inl ne_ao_bl)
 have f201 := f172.other W196 (Or.inl ne_ao_bl)
 have f202 := f173.other W196 (Or.inl ne_ao_bl)
 have f203 := f174.other W196 (Or.inl ne_ao_bl)
 have f204 := f175.other W196 (Or.inl ne_ao_bl)
 have f205 := f176.other W196 (Or.inl ne_ao_bl)
 have f206 := f177.wr W196
 have f207 := f178.other W196 ne_ae_bl
 have f208 := f179.wr W196 g_bl
 have f209 := f181.other W196 (Ne.symm ne_bl_bc)
 have f210 := f182.other W196 (Ne.symm ne_bl_bf)
 have f211 := f183.wr W196
 have f212 := f185.other W196 ne_bk_bl
 have z213 := Nat.le_trans z184 (Keep.of_wr W196).1
 have f214 := B196
 have st215 := fun t kt => st195 t (ls196 t kt)
 have st216 : own_K p e below T196 m 146 #[rv ao, rv ae, iv (Int32.ofNat ev), iv 1, rv bf, iv 0, iv k1] [.ref ao, .ref ao] B0 := fun t kt => st215 t (by
  refine XS.aloadN X196.here hx rfl (hb hby d3_144) rfl rfl ?_
  refine XS.dup X196.here hx rfl (hb hby d3_145) rfl rfl ?_
  exact kt)
 obtain ⟨T217, X217, e217, ls217⟩ := getF X196 hx hZ hown (host := "") (Or.inl (own_w hw 45 rfl)) Via.refl e196 f204 (g := (mkF m 146 #[rv ao, rv ae, iv (Int32.ofNat ev), iv 1, rv bf, iv 0, iv k1] [.ref ao, .ref ao])) rfl rfl (hb hby d3_146)
 have st218 := fun t kt => st216 t (ls217 t kt)
 have st219 : own_K p e below T217 m 151 #[rv ao, rv ae, iv (Int32.ofNat ev), iv 1, rv bf, iv 0, iv k1] [.int 1, .ref ao] B0 := fun t kt => st218 t (by
  refine XS.iconst X217.here hx rfl (hb hby d3_149) ?_
  refine XS.iadd X217.here hx rfl (hb hby d3_150) rfl ?_
  show own_At p e below T217 m 151 #[rv ao, rv ae, iv (Int32.ofNat ev), iv 1, rv bf, iv 0, iv k1] [(.int ((0 : Int32) + (1 : Int32))), .ref ao] _
  rw [show ((0 : Int32) + (1 : Int32)) = (1 : Int32) from (by decide +kernel)]
  exact kt)
 obtain ⟨T220, h220, X220, e220, W220, ls220⟩ := putF X217 hx hZ hown (host := "") (Or.inl (own_w hw 45 rfl)) Via.refl e217 f204 f206 (Or.inl (own_w hw 46 rfl)) (own_w hw 11 rfl) (ty := .int) (by decide) rfl rfl (g := (mkF m 151 #[rv ao, rv ae, iv (Int32.ofNat ev), iv 1, rv bf, iv 0, iv k1] [.int 1, .ref ao])) rfl rfl (hb hby d3_151)
 have N220 := Fr.snoc X220 N196 g_ao
 have f221 := f197.other W220 (Or.inr (own_s20_46 hw))
 have f222 := f198.other W220 (Or.inr (own_s22_46 hw))
 have f223 := f199.other W220 (Or.inr (own_s24_46 hw))
 have f224 := f200.other W220 (Or.inr (own_s26_46 hw))
 have f225 := f201.other W220 (Or.inr (own_s29_46 hw))
 have f226 := f202.other W220 (Or.inr (own_s33_46 hw))
 have f227 := f203.other W220 (Or.inr (own_s35_46 hw))
 have f228 := f204.same W220
 have f229 := f205.other W220 (Or.inr (own_s66_46 hw))
 have f230 := f206.wr W220
 have f231 := f207.other W220 (Ne.symm ne_ao_ae)
 have f232 := f208.wr W220 g_ao
 have f233 := f209.other W220 (Ne.symm ne_ao_bc)
 have f234 := f210.other W220 (Ne.symm ne_ao_bf)
 have f235 := f211.wr W220
 have f236 := f212.other W220 (Ne.symm ne_ao_bk)
 have f237 := f214.other W220 (Ne.symm ne_ao_bl)
 have z238 := Nat.le_trans z213 (Keep.of_wr W220).1
 have st239 := fun t kt => st219 t (ls220 t kt)
 have st240 : own_K p e below T220 m 155 #[rv ao, rv ae, iv (Int32.ofNat ev), iv 1, rv bf, iv 0, iv k1] [.ref ao] B0 := fun t kt => st239 t (by
  refine XS.aloadN X220.here hx rfl (hb hby d3_154) rfl rfl ?_
  exact kt)
 obtain ⟨T241, X241, e241, ls241⟩ := getF X220 hx hZ hown (host := "") (Or.inl (own_w hw 25 rfl)) Via.refl e220 f224 (g := (mkF m 155 #[rv ao, rv ae, iv (Int32.ofNat ev), iv 1, rv bf, iv 0, iv k1] [.ref ao])) rfl rfl (hb hby d3_155)
 have st242 := fun t kt => st240 t (ls241 t kt)
 have st243 : own_K p e below T241 m 159 #[rv ao, rv ae, iv (Int32.ofNat ev), iv 1, rv bf, iv 0, iv k1] [.ref ao, .ref bc] B0 := fun t kt => st242 t (by
  refine XS.aloadN X241.here hx rfl (hb hby d3_158) rfl rfl ?_
  exact kt)
 obtain ⟨T244, X244, e244, ls244⟩ := getF X241 hx hZ hown (host := "") (Or.inl (own_w hw 45 rfl)) Via.refl e241 f228 (g := (mkF m 159 #[rv ao, rv ae, iv (Int32.ofNat ev), iv 1, rv bf, iv 0, iv k1] [.ref ao, .ref bc])) rfl rfl (hb hby d3_159)
 have st245 := fun t kt => st243 t (ls244 t kt)
 have st246 : own_K p e below T244 m 170 #[rv ao, rv ae, iv (Int32.ofNat ev), iv 1, rv bf, iv 0, iv k1] [.int 0, .ref ae, (.int ((Int32.ofNat 0) <<< ((6 : Int32) &&& 31))), .ref bc] B0 := fun t kt => st245 t (by
  refine XS.iconst X244.here hx rfl (hb hby d3_162) ?_
  refine XS.isub X244.here hx rfl (hb hby d3_163) rfl ?_
  show own_At p e below T244 m 164 #[rv ao, rv ae, iv (Int32.ofNat ev), iv 1, rv bf, iv 0, iv k1] [(.int ((1 : Int32) - (1 : Int32))), .ref bc] _
  rw [show ((1 : Int32) - (1 : Int32)) = (Int32.ofNat 0) from (by decide +kernel)]
  refine XS.bipush X244.here hx rfl (hb hby d3_164) ?_
  refine XS.ishl X244.here hx rfl (hb hby d3_166) rfl ?_
  refine XS.aloadN X244.here hx rfl (hb hby d3_167) rfl rfl ?_
  refine XS.iload X244.here hx rfl (hb hby d3_168) rfl ?_
  exact kt)
 have ls247 := own_iaload X244 hx hZ e244 f231 (j := (0 : Int32)) (i := 0) (by decide) (by decide) (by decide) (v := (.int v1)) (hv0) (g := (mkF m 170 #[rv ao, rv ae, iv (Int32.ofNat ev), iv 1, rv bf, iv 0, iv k1] [.int 0, .ref ae, (.int ((Int32.ofNat 0) <<< ((6 : Int32) &&& 31))), .ref bc])) rfl rfl (hb hby d3_170)
 have st248 := fun t kt => st246 t (ls247 t kt)
 have st249 : own_K p e below T244 m 180 #[rv ao, rv ae, iv (Int32.ofNat ev), iv 1, rv bf, iv 0, iv k1] [(.int ((0 : Int32) + (1 : Int32))), .ref ae, (.int (Int32.ofNat (64 * 0 + own_pl v1))), .ref bc] B0 := fun t kt => st248 t (by
  refine XS.bipush X244.here hx rfl (hb hby d3_171) ?_
  refine XS.iand X244.here hx rfl (hb hby d3_173) rfl ?_
  refine XS.ior X244.here hx rfl (hb hby d3_174) rfl ?_
  show own_At p e below T244 m 175 #[rv ao, rv ae, iv (Int32.ofNat ev), iv 1, rv bf, iv 0, iv k1] [(.int (((Int32.ofNat 0) <<< ((6 : Int32) &&& 31)) ||| (v1 &&& (63 : Int32)))), .ref bc] _
  rw [show (((Int32.ofNat 0) <<< ((6 : Int32) &&& 31)) ||| (v1 &&& (63 : Int32))) = (Int32.ofNat (64 * 0 + own_pl v1)) from (own_idx6 0 v1 (by decide))]
  refine XS.aloadN X244.here hx rfl (hb hby d3_175) rfl rfl ?_
  refine XS.iload X244.here hx rfl (hb hby d3_176) rfl ?_
  refine XS.iconst X244.here hx rfl (hb hby d3_178) ?_
  refine XS.iadd X244.here hx rfl (hb hby d3_179) rfl ?_
  exact kt)
 have ls250 := own_iaload X244 hx hZ e244 f231 (j := ((0 : Int32) + (1 : Int32))) (i := 1) (by decide) (by decide) (by decide) (v := (.int c1)) (hc0) (g := (mkF m 180 #[rv ao, rv ae, iv (Int32.ofNat ev), iv 1, rv bf, iv 0, iv k1] [(.int ((0 : Int32) + (1 : Int32))), .ref ae, (.int (Int32.ofNat (64 * 0 + own_pl v1))), .ref bc])) rfl rfl (hb hby d3_180)
 have st251 := fun t kt => st249 t (ls250 t kt)
 have pl0 := own_pl_lt v1
 have xx0 := own_nat32 (show (64 * 0 + own_pl v1) < 2 ^ 31 by omega)
 obtain ⟨T253, h253, X253, e253, W253, B253, ls253⟩ := own_iastore X244 hx hZ e244 f233 (j := (Int32.ofNat (64 * 0 + own_pl v1))) (i := (64 * 0 + own_pl v1)) (xx0.2) (xx0.1) (by omega) (g := (mkF m 181 #[rv ao, rv ae, iv (Int32.ofNat ev), iv 1, rv bf, iv 0, iv k1] [.int c1, (.int (Int32.ofNat (64 * 0 + own_pl v1))), .ref bc])) rfl rfl (hb hby d3_181)
 have N253 := Fr.snoc X253 N220 g_bc
 have f254 := f221.other W253 (Or.inl ne_ao_bc)
 have f255 := f222.other W253 (Or.inl ne_ao_bc)
 have f256 := f223.other W253 (Or.inl ne_ao_bc)
 have f257 := f224.other W253 (Or.inl ne_ao_bc)
 have f258 := f225.other W253 (Or.inl ne_ao_bc)
 have f259 := f226.other W253 (Or.inl ne_ao_bc)
 have f260 := f227.other W253 (Or.inl ne_ao_bc)
 have f261 := f228.other W253 (Or.inl ne_ao_bc)
 have f262 := f229.other W253 (Or.inl ne_ao_bc)
 have f263 := f230.wr W253
 have f264 := f231.other W253 ne_ae_bc
 have f265 := f232.wr W253 g_bc
 have f266 := f234.other W253 (Ne.symm ne_bc_bf)
 have f267 := f235.wr W253
 have f268 := f236.other W253 ne_bk_bc
 have f269 := f237.other W253 ne_bl_bc
 have z270 := Nat.le_trans z238 (Keep.of_wr W253).1
 have f271 := B253
 have st272 := fun t kt => st251 t (ls253 t kt)
 have st273 : own_K p e below T253 m 185 #[rv ao, rv ae, iv (Int32.ofNat ev), iv 1, rv bf, iv 0, iv k1] [.ref ao, .ref bf] B0 := fun t kt => st272 t (by
  refine XS.aload X253.here hx rfl (hb hby d3_182) rfl rfl ?_
  refine XS.aloadN X253.here hx rfl (hb hby d3_184) rfl rfl ?_
  exact kt)
 obtain ⟨T274, X274, e274, ls274⟩ := getF X253 hx hZ hown (host := "") (Or.inl (own_w hw 45 rfl)) Via.refl e253 f261 (g := (mkF m 185 #[rv ao, rv ae, iv (Int32.ofNat ev), iv 1, rv bf, iv 0, iv k1] [.ref ao, .ref bf])) rfl rfl (hb hby d3_185)
 have st275 := fun t kt => st273 t (ls274 t kt)
 have st276 : own_K p e below T274 m 191 #[rv ao, rv ae, iv (Int32.ofNat ev), iv 1, rv bf, iv 0, iv k1] [.int 0, .ref bf, .int 0, .ref bf] B0 := fun t kt => st275 t (by
  refine XS.iconst X274.here hx rfl (hb hby d3_188) ?_
  refine XS.isub X274.here hx rfl (hb hby d3_189) rfl ?_
  show own_At p e below T274 m 190 #[rv ao, rv ae, iv (Int32.ofNat ev), iv 1, rv bf, iv 0, iv k1] [(.int ((1 : Int32) - (1 : Int32))), .ref bf] _
  rw [show ((1 : Int32) - (1 : Int32)) = (0 : Int32) from (by decide +kernel)]
  show own_At p e below T274 m 190 #[rv ao, rv ae, iv (Int32.ofNat ev), iv 1, rv bf, iv 0, iv k1] [.int 0, .ref bf] _
  jvm_step X274.here [X274.here.top, hx, (hb hby d3_190), Value.category]
  exact kt)
 have ls277 := own_laload X274 hx hZ e274 f266 (j := (0 : Int32)) (i := 0) (by decide) (by decide) (by decide) (v := (.long (0 : Int64))) (rfl) (g := (mkF m 191 #[rv ao, rv ae, iv (Int32.ofNat ev), iv 1, rv bf, iv 0, iv k1] [.int 0, .ref bf, .int 0, .ref bf])) rfl rfl (hb hby d3_191)
 have st278 := fun t kt => st276 t (ls277 t kt)
 have st279 : own_K p e below T274 m 196 #[rv ao, rv ae, iv (Int32.ofNat ev), iv 1, rv bf, iv 0, iv k1] [.int 0, .ref ae, .long (1 : Int64), .long (0 : Int64), .int 0, .ref bf] B0 := fun t kt => st278 t (by
  refine XS.lconst X274.here hx rfl (hb hby d3_192) ?_
  refine XS.aloadN X274.here hx rfl (hb hby d3_193) rfl rfl ?_
  refine XS.iload X274.here hx rfl (hb hby d3_194) rfl ?_
  exact kt)
 have ls280 := own_iaload X274 hx hZ e274 f264 (j := (0 : Int32)) (i := 0) (by decide) (by decide) (by decide) (v := (.int v1)) (hv0) (g := (mkF m 196 #[rv ao, rv ae, iv (Int32.ofNat ev), iv 1, rv bf, iv 0, iv k1] [.int 0, .ref ae, .long (1 : Int64), .long (0 : Int64), .int 0, .ref bf])) rfl rfl (hb hby d3_196)
 have st281 := fun t kt => st279 t (ls280 t kt)
 obtain ⟨x_f0, h_x_f0⟩ : ∃ z : Int64, z = ((0 : Int64) ||| ((1 : Int64) <<< ((v1 &&& (63 : Int32)) &&& 0x3f).toInt64)) := ⟨_, rfl⟩
 have st282 : own_K p e below T274 m 202 #[rv ao, rv ae, iv (Int32.ofNat ev), iv 1, rv bf, iv 0, iv k1] [.long x_f0, .int 0, .ref bf] B0 := fun t kt => st281 t (by
  refine XS.bipush X274.here hx rfl (hb hby d3_197) ?_
  refine XS.iand X274.here hx rfl (hb hby d3_199) rfl ?_
  refine XS.lshl X274.here hx rfl (hb hby d3_200) rfl ?_
  refine XS.lor X274.here hx rfl (hb hby d3_201) rfl ?_
  show own_At p e below T274 m 202 #[rv ao, rv ae, iv (Int32.ofNat ev), iv 1, rv bf, iv 0, iv k1] [(.long ((0 : Int64) ||| ((1 : Int64) <<< ((v1 &&& (63 : Int32)) &&& 0x3f).toInt64))), .int 0, .ref bf] _
  rw [← h_x_f0]
  exact kt)
 obtain ⟨T283, h283, X283, e283, W283, B283, ls283⟩ := own_lastore X274 hx hZ e274 f266 (j := (0 : Int32)) (i := 0) (by decide) (by decide) (by decide) (g := (mkF m 202 #[rv ao, rv ae, iv (Int32.ofNat ev), iv 1, rv bf, iv 0, iv k1] [.long x_f0, .int 0, .ref bf])) rfl rfl (hb hby d3_202)
 have N283 := Fr.snoc X283 N253 g_bf
 have f284 := f254.other W283 (Or.inl ne_ao_bf)
 have f285 := f255.other W283 (Or.inl ne_ao_bf)
 have f286 := f256.other W283 (Or.inl ne_ao_bf)
 have f287 := f257.other W283 (Or.inl ne_ao_bf)
 have f288 := f258.other W283 (Or.inl ne_ao_bf)
 have f289 := f259.other W283 (Or.inl ne_ao_bf)
 have f290 := f260.other W283 (Or.inl ne_ao_bf)
 have f291 := f261.other W283 (Or.inl ne_ao_bf)
 have f292 := f262.other W283 (Or.inl ne_ao_bf)
 have f293 := f263.wr W283
 have f294 := f264.other W283 ne_ae_bf
 have f295 := f265.wr W283 g_bf
 have f296 := f267.wr W283
 have f297 := f268.other W283 ne_bk_bf
 have f298 := f269.other W283 ne_bl_bf
 have f299 := f271.other W283 ne_bc_bf
 have z300 := Nat.le_trans z270 (Keep.of_wr W283).1
 have f301 := B283
 have st302 := fun t kt => st282 t (ls283 t kt)
 have st303 : own_K p e below T283 m 84 #[rv ao, rv ae, iv (Int32.ofNat ev), iv 1, rv bf, iv ((0 : Int32) + (2 : Int32)), iv k1] [.ref ae, (.int ((0 : Int32) + (2 : Int32)))] B0 := fun t kt => st302 t (by
  refine XS.iinc X283.here hx rfl (hb hby d3_203) rfl (l' := #[rv ao, rv ae, iv (Int32.ofNat ev), iv 1, rv bf, iv ((0 : Int32) + (2 : Int32)), iv k1]) rfl ?_
  refine XS.goto X283.here hx rfl (pc0 := 206) (pc' := 81) rfl (hb hby d3_206) (by decide) (by decide) ?_
  refine XS.iload X283.here hx rfl (hb hby d3_81) rfl ?_
  refine XS.aloadN X283.here hx rfl (hb hby d3_83) rfl rfl ?_
  exact kt)
 have ls304 := own_alen X283 hx hZ e283 f294 (g := (mkF m 84 #[rv ao, rv ae, iv (Int32.ofNat ev), iv 1, rv bf, iv ((0 : Int32) + (2 : Int32)), iv k1] [.ref ae, (.int ((0 : Int32) + (2 : Int32)))])) rfl rfl (hb hby d3_84)
 have st305 := fun t kt => st303 t (ls304 t kt)
 have hc306 : ¬ (((0 : Int32) + (2 : Int32)) < (2 : Int32)) := by decide
 have st307 : own_K p e below T283 m 211 #[rv ao, rv ae, iv (Int32.ofNat ev), iv 1, rv bf, iv ((0 : Int32) + (2 : Int32)), iv k1] [.ref ae, .ref ao] B0 := fun t kt => st305 t (by
  refine XS.icmpYes X283.here hx rfl (pc0 := 85) (pc' := 209) rfl (hb hby d3_85) rfl (flt hc306).2.1 (by decide) (by decide) ?_
  refine XS.aloadN X283.here hx rfl (hb hby d3_209) rfl rfl ?_
  refine XS.aloadN X283.here hx rfl (hb hby d3_210) rfl rfl ?_
  exact kt)
 have ls308 := own_alen X283 hx hZ e283 f294 (g := (mkF m 211 #[rv ao, rv ae, iv (Int32.ofNat ev), iv 1, rv bf, iv ((0 : Int32) + (2 : Int32)), iv k1] [.ref ae, .ref ao])) rfl rfl (hb hby d3_211)
 have st309 := fun t kt => st307 t (ls308 t kt)
 have st310 : own_K p e below T283 m 214 #[rv ao, rv ae, iv (Int32.ofNat ev), iv 1, rv bf, iv ((0 : Int32) + (2 : Int32)), iv k1] [.int 1, .ref ao] B0 := fun t kt => st309 t (by
  refine XS.iconst X283.here hx rfl (hb hby d3_212) ?_
  refine XS.idiv X283.here hx rfl (hb hby d3_213) rfl (by decide) ?_
  show own_At p e below T283 m 214 #[rv ao, rv ae, iv (Int32.ofNat ev), iv 1, rv bf, iv ((0 : Int32) + (2 : Int32)), iv k1] [(.int ((2 : Int32) / (2 : Int32))), .ref ao] _
  rw [show ((2 : Int32) / (2 : Int32)) = (1 : Int32) from (by decide +kernel)]
  exact kt)
 obtain ⟨T311, h311, X311, e311, W311, ls311⟩ := putF X283 hx hZ hown (host := "") (Or.inl (own_w hw 28 rfl)) Via.refl e283 f288 f293 (Or.inl (own_w hw 29 rfl)) (own_w hw 11 rfl) (ty := .int) (by decide) rfl rfl (g := (mkF m 214 #[rv ao, rv ae, iv (Int32.ofNat ev), iv 1, rv bf, iv ((0 : Int32) + (2 : Int32)), iv k1] [.int 1, .ref ao])) rfl rfl (hb hby d3_214)
 have N311 := Fr.snoc X311 N283 g_ao
 have f312 := f284.other W311 (Or.inr (own_s20_29 hw))
 have f313 := f285.other W311 (Or.inr (own_s22_29 hw))
 have f314 := f286.other W311 (Or.inr (own_s24_29 hw))
 have f315 := f287.other W311 (Or.inr (own_s26_29 hw))
 have f316 := f288.same W311
 have f317 := f289.other W311 (Or.inr (own_s33_29 hw))
 have f318 := f290.other W311 (Or.inr (own_s35_29 hw))
 have f319 := f291.other W311 (Or.inr (own_s46_29 hw))
 have f320 := f292.other W311 (Or.inr (own_s66_29 hw))
 have f321 := f293.wr W311
 have f322 := f294.other W311 (Ne.symm ne_ao_ae)
 have f323 := f295.wr W311 g_ao
 have f324 := f296.wr W311
 have f325 := f297.other W311 (Ne.symm ne_ao_bk)
 have f326 := f298.other W311 (Ne.symm ne_ao_bl)
 have f327 := f299.other W311 (Ne.symm ne_ao_bc)
 have f328 := f301.other W311 (Ne.symm ne_ao_bf)
 have z329 := Nat.le_trans z300 (Keep.of_wr W311).1
 have st330 := fun t kt => st310 t (ls311 t kt)
 have vv := own_nat32 (show ev < 2 ^ 31 by omega)
 have st331 : own_K p e below T311 m 219 #[rv ao, rv ae, iv (Int32.ofNat ev), iv 1, rv bf, iv ((0 : Int32) + (2 : Int32)), iv k1] [.int (Int32.ofNat ev), .ref ao] B0 := fun t kt => st330 t (by
  refine XS.aloadN X311.here hx rfl (hb hby d3_217) rfl rfl ?_
  refine XS.iloadN X311.here hx rfl (hb hby d3_218) rfl ?_
  exact kt)
 obtain ⟨T332, h332, c332, X332, e332, E332, A332, B332, O332, ls332⟩ := newRA X311 hx hZ hown (C := "[J") (ty := .long) (by decide) (own_w hw 30 rfl) (own_w hw 31 rfl) e311 (g := (mkF m 219 #[rv ao, rv ae, iv (Int32.ofNat ev), iv 1, rv bf, iv ((0 : Int32) + (2 : Int32)), iv k1] [.int (Int32.ofNat ev), .ref ao])) rfl (hb hby d3_219) rfl (vv.2) (cap := 3) (by rw [vv.1]; exact hev) (by decide) (by decide) (by decide) (ad := "[[J") (by decide)
 obtain ⟨bp, g332⟩ : ∃ z, z = h311.size := ⟨_, rfl⟩
 rw [← g332] at A332 B332 ls332
 have ne_ao_bp : ao ≠ bp := Nat.ne_of_lt (Nat.lt_of_lt_of_le f312.lt (Nat.le_of_eq g332.symm))
 have ne_ae_bp : ae ≠ bp := Nat.ne_of_lt (Nat.lt_of_lt_of_le f322.lt (Nat.le_of_eq g332.symm))
 have ne_bf_bp : bf ≠ bp := Nat.ne_of_lt (Nat.lt_of_lt_of_le f324.lt (Nat.le_of_eq g332.symm))
 have ne_bk_bp : bk ≠ bp := Nat.ne_of_lt (Nat.lt_of_lt_of_le f325.lt (Nat.le_of_eq g332.symm))
 have ne_bl_bp : bl ≠ bp := Nat.ne_of_lt (Nat.lt_of_lt_of_le f326.lt (Nat.le_of_eq g332.symm))
 have ne_bc_bp : bc ≠ bp := Nat.ne_of_lt (Nat.lt_of_lt_of_le f327.lt (Nat.le_of_eq g332.symm))
 have g_bp : n0 ≤ bp := Nat.le_trans z329 (Nat.le_of_eq g332.symm)
 have f333 := f312.ext E332
 have f334 := f313.ext E332
 have f335 := f314.ext E332
 have f336 := f315.ext E332
 have f337 := f316.ext E332
 have f338 := f317.ext E332
 have f339 := f318.ext E332
 have f340 := f319.ext E332
 have f341 := f320.ext E332
 have f342 := f321.ext E332
 have f343 := f322.ext E332
 have f344 := f323.ext E332
 have f345 := f324.ext E332
 have f346 := f325.ext E332
 have f347 := f326.ext E332
 have f348 := f327.ext E332
 have f349 := f328.ext E332
 have z350 := Nat.le_trans z329 E332.1
 have f351 : own_Ra Z h332 bp .long "[J" ev (fun _ => .null) := own_Ra.new A332 O332 (vv.2) (vv.1)
 have st352 := fun t kt => st331 t (ls332 t kt)
 obtain ⟨T353, h353, X353, e353, W353, ls353⟩ := putF X332 hx hZ hown (host := "") (Or.inl (own_w hw 32 rfl)) Via.refl e332 f338 f342 (Or.inr ⟨(own_w hw 33 rfl), rfl, hnm⟩) (own_w hw 11 rfl) (ty := (.array (.array .long))) (by decide) rfl rfl (g := (mkF m 222 #[rv ao, rv ae, iv (Int32.ofNat ev), iv 1, rv bf, iv ((0 : Int32) + (2 : Int32)), iv k1] [.ref bp, .ref ao])) rfl rfl (hb hby d3_222)
 have N353 := Fr.snoc X353 N311 g_ao
 have f354 := f333.other W353 (Or.inr (own_s20_33 hw))
 have f355 := f334.other W353 (Or.inr (own_s22_33 hw))
 have f356 := f335.other W353 (Or.inr (own_s24_33 hw))
 have f357 := f336.other W353 (Or.inr (own_s26_33 hw))
 have f358 := f337.other W353 (Or.inr (own_s29_33 hw))
 have f359 := f338.same W353
 have f360 := f339.other W353 (Or.inr (own_s35_33 hw))
 have f361 := f340.other W353 (Or.inr (own_s46_33 hw))
 have f362 := f341.other W353 (Or.inr (own_s66_33 hw))
 have f363 := f342.wr W353
 have f364 := f343.other W353 (Ne.symm ne_ao_ae)
 have f365 := f344.wr W353 g_ao
 have f366 := f345.wr W353
 have f367 := f346.other W353 (Ne.symm ne_ao_bk)
 have f368 := f347.other W353 (Ne.symm ne_ao_bl)
 have f369 := f348.other W353 (Ne.symm ne_ao_bc)
 have f370 := f349.other W353 (Ne.symm ne_ao_bf)
 have f371 := f351.other W353 (Ne.symm ne_ao_bp)
 have z372 := Nat.le_trans z350 (Keep.of_wr W353).1
 have st373 := fun t kt => st352 t (ls353 t kt)
 have st374 : own_K p e below T353 m 227 #[rv ao, rv ae, iv (Int32.ofNat ev), iv 1, rv bf, iv ((0 : Int32) + (2 : Int32)), iv k1] [.int (Int32.ofNat ev), .ref ao] B0 := fun t kt => st373 t (by
  refine XS.aloadN X353.here hx rfl (hb hby d3_225) rfl rfl ?_
  refine XS.iloadN X353.here hx rfl (hb hby d3_226) rfl ?_
  exact kt)
 obtain ⟨T375, h375, c375, X375, e375, E375, A375, ls375⟩ := newP X353 hx hZ (own_w hw 6 rfl) e353 (g := (mkF m 227 #[rv ao, rv ae, iv (Int32.ofNat ev), iv 1, rv bf, iv ((0 : Int32) + (2 : Int32)), iv k1] [.int (Int32.ofNat ev), .ref ao])) rfl (hb hby d3_227) rfl (vv.2) (cap := 3) (by rw [vv.1]; exact hev) (by decide) (by decide) (by decide)
 obtain ⟨bq, g375⟩ : ∃ z, z = h353.size := ⟨_, rfl⟩
 rw [← g375] at A375 ls375
 have ne_ao_bq : ao ≠ bq := Nat.ne_of_lt (Nat.lt_of_lt_of_le f354.lt (Nat.le_of_eq g375.symm))
 have ne_ae_bq : ae ≠ bq := Nat.ne_of_lt (Nat.lt_of_lt_of_le f364.lt (Nat.le_of_eq g375.symm))
 have ne_bf_bq : bf ≠ bq := Nat.ne_of_lt (Nat.lt_of_lt_of_le f366.lt (Nat.le_of_eq g375.symm))
 have ne_bk_bq : bk ≠ bq := Nat.ne_of_lt (Nat.lt_of_lt_of_le f367.lt (Nat.le_of_eq g375.symm))
 have ne_bl_bq : bl ≠ bq := Nat.ne_of_lt (Nat.lt_of_lt_of_le f368.lt (Nat.le_of_eq g375.symm))
 have ne_bc_bq : bc ≠ bq := Nat.ne_of_lt (Nat.lt_of_lt_of_le f369.lt (Nat.le_of_eq g375.symm))
 have ne_bp_bq : bp ≠ bq := Nat.ne_of_lt (Nat.lt_of_lt_of_le f371.lt (Nat.le_of_eq g375.symm))
 have g_bq : n0 ≤ bq := Nat.le_trans z372 (Nat.le_of_eq g375.symm)
 have f376 := f354.ext E375
 have f377 := f355.ext E375
 have f378 := f356.ext E375
 have f379 := f357.ext E375
 have f380 := f358.ext E375
 have f381 := f359.ext E375
 have f382 := f360.ext E375
 have f383 := f361.ext E375
 have f384 := f362.ext E375
 have f385 := f363.ext E375
 have f387 := f365.ext E375
 have f388 := f366.ext E375
 have f389 := f367.ext E375
 have f390 := f368.ext E375
 have f391 := f369.ext E375
 have f392 := f370.ext E375
 have f393 := f371.ext E375
 have z394 := Nat.le_trans z372 E375.1
 have f395 : own_Av Z h375 bq .int ev (fun _ => (.int 0)) := own_Av.new A375 (vv.2) (vv.1)
 have st396 := fun t kt => st374 t (ls375 t kt)
 obtain ⟨T397, h397, X397, e397, W397, ls397⟩ := putF X375 hx hZ hown (host := "") (Or.inl (own_w hw 34 rfl)) Via.refl e375 f382 f385 (Or.inr ⟨(own_w hw 35 rfl), rfl, hnm⟩) (own_w hw 11 rfl) (ty := (.array .int)) (by decide) rfl rfl (g := (mkF m 229 #[rv ao, rv ae, iv (Int32.ofNat ev), iv 1, rv bf, iv ((0 : Int32) + (2 : Int32)), iv k1] [.ref bq, .ref ao])) rfl rfl (hb hby d3_229)
 have N397 := Fr.snoc X397 N353 g_ao
 have f398 := f376.other W397 (Or.inr (own_s20_35 hw))
 have f399 := f377.other W397 (Or.inr (own_s22_35 hw))
 have f400 := f378.other W397 (Or.inr (own_s24_35 hw))
 have f401 := f379.other W397 (Or.inr (own_s26_35 hw))
 have f402 := f380.other W397 (Or.inr (own_s29_35 hw))
 have f403 := f381.other W397 (Or.inr (own_s33_35 hw))
 have f404 := f382.same W397
 have f405 := f383.other W397 (Or.inr (own_s46_35 hw))
 have f406 := f384.other W397 (Or.inr (own_s66_35 hw))
 have f407 := f385.wr W397
 have f409 := f387.wr W397 g_ao
 have f410 := f388.wr W397
 have f411 := f389.other W397 (Ne.symm ne_ao_bk)
 have f412 := f390.other W397 (Ne.symm ne_ao_bl)
 have f413 := f391.other W397 (Ne.symm ne_ao_bc)
 have f414 := f392.other W397 (Ne.symm ne_ao_bf)
 have f415 := f393.other W397 (Ne.symm ne_ao_bp)
 have f416 := f395.other W397 (Ne.symm ne_ao_bq)
 have z417 := Nat.le_trans z394 (Keep.of_wr W397).1
 have st418 := fun t kt => st396 t (ls397 t kt)
 have st419 : own_K p e below T397 m 235 #[rv ao, rv ae, iv (Int32.ofNat ev), iv 1, rv bf, iv (Int32.ofNat 0), iv k1] [] B0 := fun t kt => st418 t (by
  refine XS.iconst X397.here hx rfl (hb hby d3_232) ?_
  refine XS.istore X397.here hx rfl (hb hby d3_233) rfl (l' := #[rv ao, rv ae, iv (Int32.ofNat ev), iv 1, rv bf, iv 0, iv k1]) rfl ?_
  show own_At p e below T397 m 235 #[rv ao, rv ae, iv (Int32.ofNat ev), iv 1, rv bf, iv 0, iv k1] [] _
  rw [show (0 : Int32) = (Int32.ofNat 0) from (rfl)]
  exact kt)
 have f_bf := f414.congr (g := fun q => .long ((fun q => if q = 0 then x_f0 else 0) q)) (fun q hq => match q, hq with | 0, _ => rfl | _ + 1, z => absurd z (by omega))
 obtain ⟨T420, L420, h420, X420, e420, N420, Z420, ⟨Sm420, Pd420⟩, ls420⟩ := own_loopC ev 1 (fun q => if q = 0 then x_f0 else 0) ao ae bf bp bq (1 : Int32) (1 : Int32) (iv k1) 9 85 hx hZ hw hby hml hown hev (by decide) ne_ao_bp ne_ao_bq ne_bp_bq ne_bf_bp ne_bf_bq ne_ao_bf g_bp g_bq (by decide) (by decide) (by decide) (by decide) ev 0 (Nat.zero_add _) 6 73 _ _ _ X397 e397 N397 z417 ⟨f407, f403, f404, f402, f410, f_bf, by omega, by omega, ⟨fun _ => 0, f415.congr (fun q hq => (if_neg (Nat.not_lt_zero q)).symm), fun q hq => absurd hq (Nat.not_lt_zero q)⟩, fun _ => 0, f416⟩
 have np_ao : ¬ (ao = bp ∨ ao = bq) := fun z => z.elim ne_ao_bp ne_ao_bq
 have np_ae : ¬ (ae = bp ∨ ae = bq) := fun z => z.elim ne_ae_bp ne_ae_bq
 have np_bk : ¬ (bk = bp ∨ bk = bq) := fun z => z.elim ne_bk_bp ne_bk_bq
 have np_bl : ¬ (bl = bp ∨ bl = bq) := fun z => z.elim ne_bl_bp ne_bl_bq
 have np_bc : ¬ (bc = bp ∨ bc = bq) := fun z => z.elim ne_bc_bp ne_bc_bq
 have np_bf : ¬ (bf = bp ∨ bf = bq) := fun z => z.elim ne_bf_bp ne_bf_bq
 have f421 := own_FldSm f398 Sm420 (np_ao)
 have f422 := own_FldSm f399 Sm420 (np_ao)
 have f423 := own_FldSm f400 Sm420 (np_ao)
 have f424 := own_FldSm f401 Sm420 (np_ao)
 have f425 := own_FldSm f402 Sm420 (np_ao)
 have f426 := own_FldSm f403 Sm420 (np_ao)
 have f427 := own_FldSm f404 Sm420 (np_ao)
 have f428 := own_FldSm f405 Sm420 (np_ao)
 have f429 := own_FldSm f406 Sm420 (np_ao)
 have f430 := own_ExaSm f407 Sm420 (np_ao)
 have f432 := f409.trans (own_Sm.mono Sm420 (fun x hx => hx.elim (fun e => e ▸ g_bp) fun e => e ▸ g_bq))
 have f434 := f411.sm Sm420 (np_bk)
 have f435 := f412.sm Sm420 (np_bl)
 have f436 := f413.sm Sm420 (np_bc)
 have st438 := fun t kt => st419 t (ls420 t kt)
 obtain ⟨fs, hr, hrun, hended, hW, hsame⟩ := X420.leave (v := none) (fun _ => rfl)
 subst hB0
 refine ⟨_, _, st438 _ ?_, hrun, hended, _, _, rfl, ?_, ⟨_, rfl⟩, hW, hsame.mono (by decide) (by decide)⟩
 ·exact X420.returnOut hx Bd.returns (hb hby d3_273) hr
 ·show Q_rm_in1 Z ao ae ev fe v1 c1 h0 n0 _ T420.heap _
  rw [e420]
  exact ⟨rfl, N420, Z420, f432, f430, f428, f425, f421, ⟨_, f429⟩, bk, bl, bc, bp, bq, by
   intro x hx
   simp only [List.mem_cons, List.not_mem_nil, or_false] at hx
   rcases hx with rfl | rfl | rfl | rfl | rfl | rfl
   ·exact g_ao
   ·exact g_bk
   ·exact g_bl
   ·exact g_bc
   ·exact g_bp
   ·exact g_bq, by simp [ne_ao_bk, ne_ao_bl, ne_ao_bc, ne_ao_bp, ne_ao_bq, ne_bk_bl, ne_bk_bc, ne_bk_bp, ne_bk_bq, ne_bl_bc, ne_bl_bp, ne_bl_bq, ne_bc_bp, ne_bc_bq, ne_bp_bq], f422, f423, f424, f426, f427, f434.congr (fun q hq => match q, hq with | 0, _ => congrArg Value.int h_k1 | _ + 1, z => absurd z (by omega)), f435.congr (fun q hq => match q, hq with | 0, _ => rfl | _ + 1, z => absurd z (by omega)), f436.congr (fun q hq => by first | rfl | (simp only [Nat.mul_zero, Nat.zero_add, Nat.mul_one]; (repeat' split) <;> rfl)), Pd420⟩
def Q_rm_in2s (Z : State) (ao : Addr) (ae : Addr) (ev : Nat) (fe : Nat → Value) (v1 : Int32) (c1 : Int32) (v2 : Int32) (c2 : Int32) (h0 : Heap) (n0 : Nat) (v : Option Value) (h : Heap) (L : List Loc) : Prop := v = none ∧ Fr n0 L ∧ n0 ≤ h.size ∧ own_Sm (fun x => n0 ≤ x) h0 h ∧ own_N Z h n0 ao 1 1 (fun q => if q = 0 then own_key v1 else 0) (fun _ => 0) (fun x => if x = own_pl v2 then c2 else if x = own_pl v1 then c1 else 0) 2 (-1) ev
set_option maxRecDepth 65536 in
set_option maxHeartbeats 40000000 in
theorem rm_in2s (l : Launch) (Z : State) (a0 : Array Value) (hw : ∀ d ∈ tables_1, d.before a0 Z = true) (ws : List Jvm.Cond) (ao : Addr) (ae : Addr) (ev : Nat) (fe : Nat → Value) (v1 : Int32) (c1 : Int32) (v2 : Int32) (c2 : Int32) (h0 : Heap) (n0 : Nat) (Z0 : n0 ≤ h0.size) (F_lastKey_ao : Fld Z h0 ao "com/example/saturation/saturation/OpenNode" "lastKey" "I" (.int 0)) (F_keys_ao : Fld Z h0 ao "com/example/saturation/saturation/OpenNode" "keys" "[I" .null) (F_slots_ao : Fld Z h0 ao "com/example/saturation/saturation/OpenNode" "slots" "[I" .null) (F_children_ao : Fld Z h0 ao "com/example/saturation/saturation/OpenNode" "children" "[I" .null) (F_count_ao : Fld Z h0 ao "com/example/saturation/saturation/OpenNode" "count" "I" (.int 0)) (F_pending_ao : Fld Z h0 ao "com/example/saturation/saturation/OpenNode" "pending" "[[J" .null) (F_pendingCount_ao : Fld Z h0 ao "com/example/saturation/saturation/OpenNode" "pendingCount" "[I" .null) (F_blocks_ao : Fld Z h0 ao "com/example/saturation/saturation/OpenNode" "blocks" "I" (.int 0)) (F_lastPosition_ao : Fld Z h0 ao "com/example/saturation/saturation/OpenNode" "lastPosition" "I" (.int 0)) (E_ao : Exa Z h0 ao "com/example/saturation/saturation/OpenNode") (g_ao : n0 ≤ ao) (Ae : own_Av Z h0 ae .int 4 fe) (ne_ao_ae : ao ≠ ae) (hev : ev ≤ 3) (hv0 : fe 0 = .int v1) (hc0 : fe 1 = .int c1) (hv1 : fe 2 = .int v2) (hc1 : fe 3 = .int c2) (hkk : own_key v2 = own_key v1) :
  MetFree l (⟨"com/example/saturation/saturation/OpenNode", "<init>", "([II)V"⟩ : MethodName) (head1 (Jvm.Cond.code (⟨"com/example/saturation/saturation/OpenNode", "<init>", "([II)V"⟩ : MethodName) prog_38_method_1_code 7 none :: ws) ({ frames := 1, cells := 9, slots := 85, locals := 30 } : Room)) (fun a U => a = #[.ref ao, .ref ae, .int (Int32.ofNat ev)] ∧ Z.Warmed39 U.vm ∧ U.heap = h0) (fun _ _ _ _ _ => True) (fun _ U o U' => ∃ v L, o = .returned v ∧ Q_rm_in2s Z ao ae ev fe v1 c1 v2 c2 h0 n0 v U'.heap L ∧ FrameEnd U o U' L ({ frames := 1, cells := 9, slots := 85, locals := 30 } : Room).cells ({ frames := 1, cells := 9, slots := 85, locals := 30 } : Room).slots) := by
 refine MetFree.of_bodySF (plainFor_of_name own_pn1) hisR ?_
 intro p e s m args below meth c s₁ Bd hml0 hP hK
 obtain ⟨rfl, hZ, hh⟩ := hP
 have hx := Bd.exec
 have hby := Bd.bytes
 have hml : c.maxLocals = 7 := hml0
 have hown : s.vm.findClass "com/example/saturation/saturation/OpenNode" = some m.cls := findClass_of_methodNamed Bd.named
 have hnm := (name_of_methodNamed Bd.named Bd.method).1
 have X0 : Stand p l e ({ frames := 1, cells := 9, slots := 85, locals := 30 } : Room) s m #[.ref ao, .ref ae, .int (Int32.ofNat ev)] below meth c s₁ [] 0 0 := Stand.of_body Bd
 have e0 : s₁.heap = h0 := by rw [← hh, Bd.state]; rfl
 have N0 := Fr.nil n0
 obtain ⟨B0, hB0⟩ : ∃ B, B = (s₁.setTop (entryFrame m #[.ref ao, .ref ae, .int (Int32.ofNat ev)] 7)) := ⟨_, rfl⟩
 have st0 : own_K p e below s₁ m 0 #[rv ao, rv ae, iv (Int32.ofNat ev), .unset, .unset, .unset, .unset] [] B0 := fun t kk0 => hB0 ▸ castTop (own_ef3_RRI m ao ae (Int32.ofNat ev)) kk0
 have S0 : own_Sm (fun x => n0 ≤ x) h0 h0 := own_Sm.refl
 have st1 : own_K p e below s₁ m 1 #[rv ao, rv ae, iv (Int32.ofNat ev), .unset, .unset, .unset, .unset] [.ref ao] B0 := fun t kt => st0 t (by
  refine XS.aloadN X0.here hx rfl (hb hby d3_0) rfl rfl ?_
  exact kt)
 obtain ⟨T2, X2, e2, ls2⟩ := initO X0 hx hZ hown (own_w hw 16 rfl) (own_w hw 17 rfl) (own_w hw 18 rfl) e0 (g := (mkF m 1 #[rv ao, rv ae, iv (Int32.ofNat ev), .unset, .unset, .unset, .unset] [.ref ao])) rfl (by rw [hml]; rfl) rfl (hb hby d3_1) (by decide) (W := 0) (by show 2 * 0 + _ ≤ _; exact Nat.le_of_eq rfl) (by decide)
 have st3 := fun t kt => st1 t (ls2 t kt)
 have st4 : own_K p e below T2 m 6 #[rv ao, rv ae, iv (Int32.ofNat ev), .unset, .unset, .unset, .unset] [.int (-1 : Int32), .ref ao] B0 := fun t kt => st3 t (by
  refine XS.aloadN X2.here hx rfl (hb hby d3_4) rfl rfl ?_
  refine XS.iconst X2.here hx rfl (hb hby d3_5) ?_
  exact kt)
 obtain ⟨T5, h5, X5, e5, W5, ls5⟩ := putF X2 hx hZ hown (host := "") (Or.inl (own_w hw 19 rfl)) Via.refl e2 F_lastKey_ao E_ao (Or.inl (own_w hw 20 rfl)) (own_w hw 11 rfl) (ty := .int) (by decide) rfl rfl (g := (mkF m 6 #[rv ao, rv ae, iv (Int32.ofNat ev), .unset, .unset, .unset, .unset] [.int (-1 : Int32), .ref ao])) rfl rfl (hb hby d3_6)
 have N5 := Fr.snoc X5 N0 g_ao
 have f6 := F_lastKey_ao.same W5
 have f7 := F_keys_ao.other W5 (Or.inr (own_s22_20 hw))
 have f8 := F_slots_ao.other W5 (Or.inr (own_s24_20 hw))
 have f9 := F_children_ao.other W5 (Or.inr (own_s26_20 hw))
 have f10 := F_count_ao.other W5 (Or.inr (own_s29_20 hw))
 have f11 := F_pending_ao.other W5 (Or.inr (own_s33_20 hw))
 have f12 := F_pendingCount_ao.other W5 (Or.inr (own_s35_20 hw))
 have f13 := F_blocks_ao.other W5 (Or.inr (own_s46_20 hw))
 have f14 := F_lastPosition_ao.other W5 (Or.inr (own_s66_20 hw))
 have f15 := E_ao.wr W5
 have f16 := Ae.other W5 (Ne.symm ne_ao_ae)
 have f17 := S0.wr W5 g_ao
 have z18 := Nat.le_trans Z0 (Keep.of_wr W5).1
 have st19 := fun t kt => st4 t (ls5 t kt)
 have st20 : own_K p e below T5 m 17 #[rv ao, rv ae, iv (Int32.ofNat ev), iv 1, iv 2, .unset, .unset] [.ref ae, .int 2] B0 := fun t kt => st19 t (by
  refine XS.iconst X5.here hx rfl (hb hby d3_9) ?_
  refine XS.istoreN X5.here hx rfl (hb hby d3_10) rfl (l' := #[rv ao, rv ae, iv (Int32.ofNat ev), iv 1, .unset, .unset, .unset]) rfl ?_
  refine XS.iconst X5.here hx rfl (hb hby d3_11) ?_
  refine XS.istore X5.here hx rfl (hb hby d3_12) rfl (l' := #[rv ao, rv ae, iv (Int32.ofNat ev), iv 1, iv 2, .unset, .unset]) rfl ?_
  refine XS.iload X5.here hx rfl (hb hby d3_14) rfl ?_
  refine XS.aloadN X5.here hx rfl (hb hby d3_16) rfl rfl ?_
  exact kt)
 have ls21 := own_alen X5 hx hZ e5 f16 (g := (mkF m 17 #[rv ao, rv ae, iv (Int32.ofNat ev), iv 1, iv 2, .unset, .unset] [.ref ae, .int 2])) rfl rfl (hb hby d3_17)
 have st22 := fun t kt => st20 t (ls21 t kt)
 have hc23 : (2 : Int32) < (4 : Int32) := by decide
 have st24 : own_K p e below T5 m 24 #[rv ao, rv ae, iv (Int32.ofNat ev), iv 1, iv 2, .unset, .unset] [.int 2, .ref ae] B0 := fun t kt => st22 t (by
  refine XS.icmpNo X5.here hx rfl (hb hby d3_18) rfl (tlt hc23).2.1 ?_
  refine XS.aloadN X5.here hx rfl (hb hby d3_21) rfl rfl ?_
  refine XS.iload X5.here hx rfl (hb hby d3_22) rfl ?_
  exact kt)
 have ls25 := own_iaload X5 hx hZ e5 f16 (j := (2 : Int32)) (i := 2) (by decide) (by decide) (by decide) (v := (.int v2)) (hv1) (g := (mkF m 24 #[rv ao, rv ae, iv (Int32.ofNat ev), iv 1, iv 2, .unset, .unset] [.int 2, .ref ae])) rfl rfl (hb hby d3_24)
 have st26 := fun t kt => st24 t (ls25 t kt)
 have st27 : own_K p e below T5 m 33 #[rv ao, rv ae, iv (Int32.ofNat ev), iv 1, iv 2, .unset, .unset] [(.int ((2 : Int32) - (2 : Int32))), .ref ae, (.int ((v2.toUInt32 >>> ((6 : Int32) &&& 31).toUInt32).toInt32))] B0 := fun t kt => st26 t (by
  refine XS.bipush X5.here hx rfl (hb hby d3_25) ?_
  refine XS.iushr X5.here hx rfl (hb hby d3_27) rfl ?_
  refine XS.aloadN X5.here hx rfl (hb hby d3_28) rfl rfl ?_
  refine XS.iload X5.here hx rfl (hb hby d3_29) rfl ?_
  refine XS.iconst X5.here hx rfl (hb hby d3_31) ?_
  refine XS.isub X5.here hx rfl (hb hby d3_32) rfl ?_
  exact kt)
 have ls28 := own_iaload X5 hx hZ e5 f16 (j := ((2 : Int32) - (2 : Int32))) (i := 0) (by decide) (by decide) (by decide) (v := (.int v1)) (hv0) (g := (mkF m 33 #[rv ao, rv ae, iv (Int32.ofNat ev), iv 1, iv 2, .unset, .unset] [(.int ((2 : Int32) - (2 : Int32))), .ref ae, (.int ((v2.toUInt32 >>> ((6 : Int32) &&& 31).toUInt32).toInt32))])) rfl rfl (hb hby d3_33)
 have st29 := fun t kt => st27 t (ls28 t kt)
 have hc30 : ((v2.toUInt32 >>> ((6 : Int32) &&& 31).toUInt32).toInt32) = ((v1.toUInt32 >>> ((6 : Int32) &&& 31).toUInt32).toInt32) := hkk
 have st31 : own_K p e below T5 m 17 #[rv ao, rv ae, iv (Int32.ofNat ev), iv 1, iv ((2 : Int32) + (2 : Int32)), .unset, .unset] [.ref ae, (.int ((2 : Int32) + (2 : Int32)))] B0 := fun t kt => st29 t (by
  refine XS.bipush X5.here hx rfl (hb hby d3_34) ?_
  refine XS.iushr X5.here hx rfl (hb hby d3_36) rfl ?_
  refine XS.icmpYes X5.here hx rfl (pc0 := 37) (pc' := 43) rfl (hb hby d3_37) rfl (teq hc30).1 (by decide) (by decide) ?_
  refine XS.iinc X5.here hx rfl (hb hby d3_43) rfl (l' := #[rv ao, rv ae, iv (Int32.ofNat ev), iv 1, iv ((2 : Int32) + (2 : Int32)), .unset, .unset]) rfl ?_
  refine XS.goto X5.here hx rfl (pc0 := 46) (pc' := 14) rfl (hb hby d3_46) (by decide) (by decide) ?_
  refine XS.iload X5.here hx rfl (hb hby d3_14) rfl ?_
  refine XS.aloadN X5.here hx rfl (hb hby d3_16) rfl rfl ?_
  exact kt)
 have ls32 := own_alen X5 hx hZ e5 f16 (g := (mkF m 17 #[rv ao, rv ae, iv (Int32.ofNat ev), iv 1, iv ((2 : Int32) + (2 : Int32)), .unset, .unset] [.ref ae, (.int ((2 : Int32) + (2 : Int32)))])) rfl rfl (hb hby d3_17)
 have st33 := fun t kt => st31 t (ls32 t kt)
 have hc34 : ¬ (((2 : Int32) + (2 : Int32)) < (4 : Int32)) := by decide
 have st35 : own_K p e below T5 m 51 #[rv ao, rv ae, iv (Int32.ofNat ev), iv 1, iv ((2 : Int32) + (2 : Int32)), .unset, .unset] [.int 1, .ref ao] B0 := fun t kt => st33 t (by
  refine XS.icmpYes X5.here hx rfl (pc0 := 18) (pc' := 49) rfl (hb hby d3_18) rfl (flt hc34).2.1 (by decide) (by decide) ?_
  refine XS.aloadN X5.here hx rfl (hb hby d3_49) rfl rfl ?_
  refine XS.iloadN X5.here hx rfl (hb hby d3_50) rfl ?_
  exact kt)
 obtain ⟨T36, h36, c36, X36, e36, E36, A36, ls36⟩ := newP X5 hx hZ (own_w hw 6 rfl) e5 (g := (mkF m 51 #[rv ao, rv ae, iv (Int32.ofNat ev), iv 1, iv ((2 : Int32) + (2 : Int32)), .unset, .unset] [.int 1, .ref ao])) rfl (hb hby d3_51) rfl (by decide) (cap := 1) (by decide) (by decide) (by decide) (by decide)
 obtain ⟨bk, g36⟩ : ∃ z, z = h5.size := ⟨_, rfl⟩
 rw [← g36] at A36 ls36
 have ne_ao_bk : ao ≠ bk := Nat.ne_of_lt (Nat.lt_of_lt_of_le f6.lt (Nat.le_of_eq g36.symm))
 have ne_ae_bk : ae ≠ bk := Nat.ne_of_lt (Nat.lt_of_lt_of_le f16.lt (Nat.le_of_eq g36.symm))
 have g_bk : n0 ≤ bk := Nat.le_trans z18 (Nat.le_of_eq g36.symm)
 have f37 := f6.ext E36
 have f38 := f7.ext E36
 have f39 := f8.ext E36
 have f40 := f9.ext E36
 have f41 := f10.ext E36
 have f42 := f11.ext E36
 have f43 := f12.ext E36
 have f44 := f13.ext E36
 have f45 := f14.ext E36
 have f46 := f15.ext E36
 have f47 := f16.ext E36
 have f48 := f17.ext E36
 have z49 := Nat.le_trans z18 E36.1
 have f50 : own_Av Z h36 bk .int 1 (fun _ => (.int 0)) := own_Av.new A36 (by decide) (by decide)
 have st51 := fun t kt => st35 t (ls36 t kt)
 obtain ⟨T52, h52, X52, e52, W52, ls52⟩ := putF X36 hx hZ hown (host := "") (Or.inl (own_w hw 21 rfl)) Via.refl e36 f38 f46 (Or.inl (own_w hw 22 rfl)) (own_w hw 11 rfl) (ty := (.array .int)) (by decide) rfl rfl (g := (mkF m 53 #[rv ao, rv ae, iv (Int32.ofNat ev), iv 1, iv ((2 : Int32) + (2 : Int32)), .unset, .unset] [.ref bk, .ref ao])) rfl rfl (hb hby d3_53)
 have N52 := Fr.snoc X52 N5 g_ao
 have f53 := f37.other W52 (Or.inr (own_s20_22 hw))
 have f54 := f38.same W52
 have f55 := f39.other W52 (Or.inr (own_s24_22 hw))
 have f56 := f40.other W52 (Or.inr (own_s26_22 hw))
 have f57 := f41.other W52 (Or.inr (own_s29_22 hw))
 have f58 := f42.other W52 (Or.inr (own_s33_22 hw))
 have f59 := f43.other W52 (Or.inr (own_s35_22 hw))
 have f60 := f44.other W52 (Or.inr (own_s46_22 hw))
 have f61 := f45.other W52 (Or.inr (own_s66_22 hw))
 have f62 := f46.wr W52
 have f63 := f47.other W52 (Ne.symm ne_ao_ae)
 have f64 := f48.wr W52 g_ao
 have f65 := f50.other W52 (Ne.symm ne_ao_bk)
 have z66 := Nat.le_trans z49 (Keep.of_wr W52).1
 have st67 := fun t kt => st51 t (ls52 t kt)
 have st68 : own_K p e below T52 m 58 #[rv ao, rv ae, iv (Int32.ofNat ev), iv 1, iv ((2 : Int32) + (2 : Int32)), .unset, .unset] [.int 1, .ref ao] B0 := fun t kt => st67 t (by
  refine XS.aloadN X52.here hx rfl (hb hby d3_56) rfl rfl ?_
  refine XS.iloadN X52.here hx rfl (hb hby d3_57) rfl ?_
  exact kt)
 obtain ⟨T69, h69, c69, X69, e69, E69, A69, ls69⟩ := newP X52 hx hZ (own_w hw 6 rfl) e52 (g := (mkF m 58 #[rv ao, rv ae, iv (Int32.ofNat ev), iv 1, iv ((2 : Int32) + (2 : Int32)), .unset, .unset] [.int 1, .ref ao])) rfl (hb hby d3_58) rfl (by decide) (cap := 1) (by decide) (by decide) (by decide) (by decide)
 obtain ⟨bl, g69⟩ : ∃ z, z = h52.size := ⟨_, rfl⟩
 rw [← g69] at A69 ls69
 have ne_ao_bl : ao ≠ bl := Nat.ne_of_lt (Nat.lt_of_lt_of_le f53.lt (Nat.le_of_eq g69.symm))
 have ne_ae_bl : ae ≠ bl := Nat.ne_of_lt (Nat.lt_of_lt_of_le f63.lt (Nat.le_of_eq g69.symm))
 have ne_bk_bl : bk ≠ bl := Nat.ne_of_lt (Nat.lt_of_lt_of_le f65.lt (Nat.le_of_eq g69.symm))
 have g_bl : n0 ≤ bl := Nat.le_trans z66 (Nat.le_of_eq g69.symm)
 have f70 := f53.ext E69
 have f71 := f54.ext E69
 have f72 := f55.ext E69
 have f73 := f56.ext E69
 have f74 := f57.ext E69
 have f75 := f58.ext E69
 have f76 := f59.ext E69
 have f77 := f60.ext E69
 have f78 := f61.ext E69
 have f79 := f62.ext E69
 have f80 := f63.ext E69
 have f81 := f64.ext E69
 have f82 := f65.ext E69
 have z83 := Nat.le_trans z66 E69.1
 have f84 : own_Av Z h69 bl .int 1 (fun _ => (.int 0)) := own_Av.new A69 (by decide) (by decide)
 have st85 := fun t kt => st68 t (ls69 t kt)
 obtain ⟨T86, h86, X86, e86, W86, ls86⟩ := putF X69 hx hZ hown (host := "") (Or.inl (own_w hw 23 rfl)) Via.refl e69 f72 f79 (Or.inl (own_w hw 24 rfl)) (own_w hw 11 rfl) (ty := (.array .int)) (by decide) rfl rfl (g := (mkF m 60 #[rv ao, rv ae, iv (Int32.ofNat ev), iv 1, iv ((2 : Int32) + (2 : Int32)), .unset, .unset] [.ref bl, .ref ao])) rfl rfl (hb hby d3_60)
 have N86 := Fr.snoc X86 N52 g_ao
 have f87 := f70.other W86 (Or.inr (own_s20_24 hw))
 have f88 := f71.other W86 (Or.inr (own_s22_24 hw))
 have f89 := f72.same W86
 have f90 := f73.other W86 (Or.inr (own_s26_24 hw))
 have f91 := f74.other W86 (Or.inr (own_s29_24 hw))
 have f92 := f75.other W86 (Or.inr (own_s33_24 hw))
 have f93 := f76.other W86 (Or.inr (own_s35_24 hw))
 have f94 := f77.other W86 (Or.inr (own_s46_24 hw))
 have f95 := f78.other W86 (Or.inr (own_s66_24 hw))
 have f96 := f79.wr W86
 have f97 := f80.other W86 (Ne.symm ne_ao_ae)
 have f98 := f81.wr W86 g_ao
 have f99 := f82.other W86 (Ne.symm ne_ao_bk)
 have f100 := f84.other W86 (Ne.symm ne_ao_bl)
 have z101 := Nat.le_trans z83 (Keep.of_wr W86).1
 have st102 := fun t kt => st85 t (ls86 t kt)
 have st103 : own_K p e below T86 m 68 #[rv ao, rv ae, iv (Int32.ofNat ev), iv 1, iv ((2 : Int32) + (2 : Int32)), .unset, .unset] [.int 64, .ref ao] B0 := fun t kt => st102 t (by
  refine XS.aloadN X86.here hx rfl (hb hby d3_63) rfl rfl ?_
  refine XS.iloadN X86.here hx rfl (hb hby d3_64) rfl ?_
  refine XS.bipush X86.here hx rfl (hb hby d3_65) ?_
  refine XS.ishl X86.here hx rfl (hb hby d3_67) rfl ?_
  show own_At p e below T86 m 68 #[rv ao, rv ae, iv (Int32.ofNat ev), iv 1, iv ((2 : Int32) + (2 : Int32)), .unset, .unset] [(.int ((1 : Int32) <<< ((6 : Int32) &&& 31))), .ref ao] _
  rw [show ((1 : Int32) <<< ((6 : Int32) &&& 31)) = (64 : Int32) from (by decide +kernel)]
  exact kt)
 obtain ⟨T104, h104, c104, X104, e104, E104, A104, ls104⟩ := newP X86 hx hZ (own_w hw 6 rfl) e86 (g := (mkF m 68 #[rv ao, rv ae, iv (Int32.ofNat ev), iv 1, iv ((2 : Int32) + (2 : Int32)), .unset, .unset] [.int 64, .ref ao])) rfl (hb hby d3_68) rfl (by decide) (cap := 64) (by decide) (by decide) (by decide) (by decide)
 obtain ⟨bc, g104⟩ : ∃ z, z = h86.size := ⟨_, rfl⟩
 rw [← g104] at A104 ls104
 have ne_ao_bc : ao ≠ bc := Nat.ne_of_lt (Nat.lt_of_lt_of_le f87.lt (Nat.le_of_eq g104.symm))
 have ne_ae_bc : ae ≠ bc := Nat.ne_of_lt (Nat.lt_of_lt_of_le f97.lt (Nat.le_of_eq g104.symm))
 have ne_bk_bc : bk ≠ bc := Nat.ne_of_lt (Nat.lt_of_lt_of_le f99.lt (Nat.le_of_eq g104.symm))
 have ne_bl_bc : bl ≠ bc := Nat.ne_of_lt (Nat.lt_of_lt_of_le f100.lt (Nat.le_of_eq g104.symm))
 have g_bc : n0 ≤ bc := Nat.le_trans z101 (Nat.le_of_eq g104.symm)
 have f105 := f87.ext E104
 have f106 := f88.ext E104
 have f107 := f89.ext E104
 have f108 := f90.ext E104
 have f109 := f91.ext E104
 have f110 := f92.ext E104
 have f111 := f93.ext E104
 have f112 := f94.ext E104
 have f113 := f95.ext E104
 have f114 := f96.ext E104
 have f115 := f97.ext E104
 have f116 := f98.ext E104
 have f117 := f99.ext E104
 have f118 := f100.ext E104
 have z119 := Nat.le_trans z101 E104.1
 have f120 : own_Av Z h104 bc .int 64 (fun _ => (.int 0)) := own_Av.new A104 (by decide) (by decide)
 have st121 := fun t kt => st103 t (ls104 t kt)
 obtain ⟨T122, h122, X122, e122, W122, ls122⟩ := putF X104 hx hZ hown (host := "") (Or.inl (own_w hw 25 rfl)) Via.refl e104 f108 f114 (Or.inl (own_w hw 26 rfl)) (own_w hw 11 rfl) (ty := (.array .int)) (by decide) rfl rfl (g := (mkF m 70 #[rv ao, rv ae, iv (Int32.ofNat ev), iv 1, iv ((2 : Int32) + (2 : Int32)), .unset, .unset] [.ref bc, .ref ao])) rfl rfl (hb hby d3_70)
 have N122 := Fr.snoc X122 N86 g_ao
 have f123 := f105.other W122 (Or.inr (own_s20_26 hw))
 have f124 := f106.other W122 (Or.inr (own_s22_26 hw))
 have f125 := f107.other W122 (Or.inr (own_s24_26 hw))
 have f126 := f108.same W122
 have f127 := f109.other W122 (Or.inr (own_s29_26 hw))
 have f128 := f110.other W122 (Or.inr (own_s33_26 hw))
 have f129 := f111.other W122 (Or.inr (own_s35_26 hw))
 have f130 := f112.other W122 (Or.inr (own_s46_26 hw))
 have f131 := f113.other W122 (Or.inr (own_s66_26 hw))
 have f132 := f114.wr W122
 have f133 := f115.other W122 (Ne.symm ne_ao_ae)
 have f134 := f116.wr W122 g_ao
 have f135 := f117.other W122 (Ne.symm ne_ao_bk)
 have f136 := f118.other W122 (Ne.symm ne_ao_bl)
 have f137 := f120.other W122 (Ne.symm ne_ao_bc)
 have z138 := Nat.le_trans z119 (Keep.of_wr W122).1
 have st139 := fun t kt => st121 t (ls122 t kt)
 have st140 : own_K p e below T122 m 74 #[rv ao, rv ae, iv (Int32.ofNat ev), iv 1, iv ((2 : Int32) + (2 : Int32)), .unset, .unset] [.int 1] B0 := fun t kt => st139 t (by
  refine XS.iloadN X122.here hx rfl (hb hby d3_73) rfl ?_
  exact kt)
 obtain ⟨T141, h141, c141, X141, e141, E141, A141, B141, ls141⟩ := newPE X122 hx hZ (own_w hw 27 rfl) e122 (g := (mkF m 74 #[rv ao, rv ae, iv (Int32.ofNat ev), iv 1, iv ((2 : Int32) + (2 : Int32)), .unset, .unset] [.int 1])) rfl (hb hby d3_74) rfl (by decide) (cap := 1) (by decide) (by decide) (by decide) (by decide) (ad := "[J") (by decide)
 obtain ⟨bf, g141⟩ : ∃ z, z = h122.size := ⟨_, rfl⟩
 rw [← g141] at A141 B141 ls141
 have ne_ao_bf : ao ≠ bf := Nat.ne_of_lt (Nat.lt_of_lt_of_le f123.lt (Nat.le_of_eq g141.symm))
 have ne_ae_bf : ae ≠ bf := Nat.ne_of_lt (Nat.lt_of_lt_of_le f133.lt (Nat.le_of_eq g141.symm))
 have ne_bk_bf : bk ≠ bf := Nat.ne_of_lt (Nat.lt_of_lt_of_le f135.lt (Nat.le_of_eq g141.symm))
 have ne_bl_bf : bl ≠ bf := Nat.ne_of_lt (Nat.lt_of_lt_of_le f136.lt (Nat.le_of_eq g141.symm))
 have ne_bc_bf : bc ≠ bf := Nat.ne_of_lt (Nat.lt_of_lt_of_le f137.lt (Nat.le_of_eq g141.symm))
 have g_bf : n0 ≤ bf := Nat.le_trans z138 (Nat.le_of_eq g141.symm)
 have f142 := f123.ext E141
 have f143 := f124.ext E141
 have f144 := f125.ext E141
 have f145 := f126.ext E141
 have f146 := f127.ext E141
 have f147 := f128.ext E141
 have f148 := f129.ext E141
 have f149 := f130.ext E141
 have f150 := f131.ext E141
 have f151 := f132.ext E141
 have f152 := f133.ext E141
 have f153 := f134.ext E141
 have f154 := f135.ext E141
 have f155 := f136.ext E141
 have f156 := f137.ext E141
 have z157 := Nat.le_trans z138 E141.1
 have f158 : own_Av Z h141 bf .long 1 (fun _ => (.long (0 : Int64))) := own_Av.new A141 (by decide) (by decide)
 have st159 := fun t kt => st140 t (ls141 t kt)
 have st160 : own_K p e below T141 m 84 #[rv ao, rv ae, iv (Int32.ofNat ev), iv 1, rv bf, iv 0, .unset] [.ref ae, .int 0] B0 := fun t kt => st159 t (by
  refine XS.astore X141.here hx rfl (hb hby d3_76) rfl rfl (l' := #[rv ao, rv ae, iv (Int32.ofNat ev), iv 1, rv bf, .unset, .unset]) rfl ?_
  refine XS.iconst X141.here hx rfl (hb hby d3_78) ?_
  refine XS.istore X141.here hx rfl (hb hby d3_79) rfl (l' := #[rv ao, rv ae, iv (Int32.ofNat ev), iv 1, rv bf, iv 0, .unset]) rfl ?_
  refine XS.iload X141.here hx rfl (hb hby d3_81) rfl ?_
  refine XS.aloadN X141.here hx rfl (hb hby d3_83) rfl rfl ?_
  exact kt)
 have ls161 := own_alen X141 hx hZ e141 f152 (g := (mkF m 84 #[rv ao, rv ae, iv (Int32.ofNat ev), iv 1, rv bf, iv 0, .unset] [.ref ae, .int 0])) rfl rfl (hb hby d3_84)
 have st162 := fun t kt => st160 t (ls161 t kt)
 have hc163 : (0 : Int32) < (4 : Int32) := by decide
 have st164 : own_K p e below T141 m 91 #[rv ao, rv ae, iv (Int32.ofNat ev), iv 1, rv bf, iv 0, .unset] [.int 0, .ref ae] B0 := fun t kt => st162 t (by
  refine XS.icmpNo X141.here hx rfl (hb hby d3_85) rfl (tlt hc163).2.1 ?_
  refine XS.aloadN X141.here hx rfl (hb hby d3_88) rfl rfl ?_
  refine XS.iload X141.here hx rfl (hb hby d3_89) rfl ?_
  exact kt)
 have ls165 := own_iaload X141 hx hZ e141 f152 (j := (0 : Int32)) (i := 0) (by decide) (by decide) (by decide) (v := (.int v1)) (hv0) (g := (mkF m 91 #[rv ao, rv ae, iv (Int32.ofNat ev), iv 1, rv bf, iv 0, .unset] [.int 0, .ref ae])) rfl rfl (hb hby d3_91)
 have st166 := fun t kt => st164 t (ls165 t kt)
 obtain ⟨k1, h_k1⟩ : ∃ z : Int32, z = ((v1.toUInt32 >>> ((6 : Int32) &&& 31).toUInt32).toInt32) := ⟨_, rfl⟩
 have st167 : own_K p e below T141 m 98 #[rv ao, rv ae, iv (Int32.ofNat ev), iv 1, rv bf, iv 0, iv k1] [.ref ao] B0 := fun t kt => st166 t (by
  refine XS.bipush X141.here hx rfl (hb hby d3_92) ?_
  refine XS.iushr X141.here hx rfl (hb hby d3_94) rfl ?_
  show own_At p e below T141 m 95 #[rv ao, rv ae, iv (Int32.ofNat ev), iv 1, rv bf, iv 0, .unset] [(.int ((v1.toUInt32 >>> ((6 : Int32) &&& 31).toUInt32).toInt32))] _
  rw [← h_k1]
  refine XS.istore X141.here hx rfl (hb hby d3_95) rfl (l' := #[rv ao, rv ae, iv (Int32.ofNat ev), iv 1, rv bf, iv 0, iv k1]) rfl ?_
  refine XS.aloadN X141.here hx rfl (hb hby d3_97) rfl rfl ?_
  exact kt)
 obtain ⟨T168, X168, e168, ls168⟩ := getF X141 hx hZ hown (host := "") (Or.inl (own_w hw 45 rfl)) Via.refl e141 f149 (g := (mkF m 98 #[rv ao, rv ae, iv (Int32.ofNat ev), iv 1, rv bf, iv 0, iv k1] [.ref ao])) rfl rfl (hb hby d3_98)
 have st169 := fun t kt => st167 t (ls168 t kt)
 have hc170 : (0 : Int32) = (0 : Int32) := rfl
 have st171 : own_K p e below T168 m 121 #[rv ao, rv ae, iv (Int32.ofNat ev), iv 1, rv bf, iv 0, iv k1] [.ref ao] B0 := fun t kt => st169 t (by
  refine XS.ifYes X168.here hx rfl (pc0 := 101) (pc' := 120) rfl (hb hby d3_101) rfl ((if0 _ _).trans (teq hc170).1) (by decide) (by decide) ?_
  refine XS.aloadN X168.here hx rfl (hb hby d3_120) rfl rfl ?_
  exact kt)
 obtain ⟨T172, X172, e172, ls172⟩ := getF X168 hx hZ hown (host := "") (Or.inl (own_w hw 21 rfl)) Via.refl e168 f143 (g := (mkF m 121 #[rv ao, rv ae, iv (Int32.ofNat ev), iv 1, rv bf, iv 0, iv k1] [.ref ao])) rfl rfl (hb hby d3_121)
 have st173 := fun t kt => st171 t (ls172 t kt)
 have st174 : own_K p e below T172 m 125 #[rv ao, rv ae, iv (Int32.ofNat ev), iv 1, rv bf, iv 0, iv k1] [.ref ao, .ref bk] B0 := fun t kt => st173 t (by
  refine XS.aloadN X172.here hx rfl (hb hby d3_124) rfl rfl ?_
  exact kt)
 obtain ⟨T175, X175, e175, ls175⟩ := getF X172 hx hZ hown (host := "") (Or.inl (own_w hw 45 rfl)) Via.refl e172 f149 (g := (mkF m 125 #[rv ao, rv ae, iv (Int32.ofNat ev), iv 1, rv bf, iv 0, iv k1] [.ref ao, .ref bk])) rfl rfl (hb hby d3_125)
 have st176 := fun t kt => st174 t (ls175 t kt)
 have st177 : own_K p e below T175 m 130 #[rv ao, rv ae, iv (Int32.ofNat ev), iv 1, rv bf, iv 0, iv k1] [.int k1, .int 0, .ref bk] B0 := fun t kt => st176 t (by
  refine XS.iload X175.here hx rfl (hb hby d3_128) rfl ?_
  exact kt)
 obtain ⟨T178, h178, X178, e178, W178, B178, ls178⟩ := own_iastore X175 hx hZ e175 f154 (j := (0 : Int32)) (i := 0) (by decide) (by decide) (by decide) (g := (mkF m 130 #[rv ao, rv ae, iv (Int32.ofNat ev), iv 1, rv bf, iv 0, iv k1] [.int k1, .int 0, .ref bk])) rfl rfl (hb hby d3_130)
 have N178 := Fr.snoc X178 N122 g_bk
 have f179 := f142.other W178 (Or.inl ne_ao_bk)
 have f180 := f143.other W178 (Or.inl ne_ao_bk)
 have f181 := f144.other W178 (Or.inl ne_ao_bk)
 have f182 := f145.other W178 (Or.inl ne_ao_bk)
 have f183 := f146.other W178 (Or.inl ne_ao_bk)
 have f184 := f147.other W178 (Or.inl ne_ao_bk)
 have f185 := f148.other W178 (Or.inl ne_ao_bk)
 have f186 := f149.other W178 (Or.inl ne_ao_bk)
 have f187 := f150.other W178 (Or.inl ne_ao_bk)
 have f188 := f151.wr W178
 have f189 := f152.other W178 ne_ae_bk
 have f190 := f153.wr W178 g_bk
 have f191 := f155.other W178 (Ne.symm ne_bk_bl)
 have f192 := f156.other W178 (Ne.symm ne_bk_bc)
 have f193 := f158.other W178 (Ne.symm ne_bk_bf)
 have f194 := B141.wr W178
 have z195 := Nat.le_trans z157 (Keep.of_wr W178).1
 have f196 := B178
 have st197 := fun t kt => st177 t (ls178 t kt)
 have st198 : own_K p e below T178 m 132 #[rv ao, rv ae, iv (Int32.ofNat ev), iv 1, rv bf, iv 0, iv k1] [.ref ao] B0 := fun t kt => st197 t (by
  refine XS.aloadN X178.here hx rfl (hb hby d3_131) rfl rfl ?_
  exact kt)
 obtain ⟨T199, X199, e199, ls199⟩ := getF X178 hx hZ hown (host := "") (Or.inl (own_w hw 23 rfl)) Via.refl e178 f181 (g := (mkF m 132 #[rv ao, rv ae, iv (Int32.ofNat ev), iv 1, rv bf, iv 0, iv k1] [.ref ao])) rfl rfl (hb hby d3_132)
 have st200 := fun t kt => st198 t (ls199 t kt)
 have st201 : own_K p e below T199 m 136 #[rv ao, rv ae, iv (Int32.ofNat ev), iv 1, rv bf, iv 0, iv k1] [.ref ao, .ref bl] B0 := fun t kt => st200 t (by
  refine XS.aloadN X199.here hx rfl (hb hby d3_135) rfl rfl ?_
  exact kt)
 obtain ⟨T202, X202, e202, ls202⟩ := getF X199 hx hZ hown (host := "") (Or.inl (own_w hw 45 rfl)) Via.refl e199 f186 (g := (mkF m 136 #[rv ao, rv ae, iv (Int32.ofNat ev), iv 1, rv bf, iv 0, iv k1] [.ref ao, .ref bl])) rfl rfl (hb hby d3_136)
 have st203 := fun t kt => st201 t (ls202 t kt)
 have st204 : own_K p e below T202 m 140 #[rv ao, rv ae, iv (Int32.ofNat ev), iv 1, rv bf, iv 0, iv k1] [.ref ao, .int 0, .ref bl] B0 := fun t kt => st203 t (by
  refine XS.aloadN X202.here hx rfl (hb hby d3_139) rfl rfl ?_
  exact kt)
 obtain ⟨T205, X205, e205, ls205⟩ := getF X202 hx hZ hown (host := "") (Or.inl (own_w hw 45 rfl)) Via.refl e202 f186 (g := (mkF m 140 #[rv ao, rv ae, iv (Int32.ofNat ev), iv 1, rv bf, iv 0, iv k1] [.ref ao, .int 0, .ref bl])) rfl rfl (hb hby d3_140)
 have st206 := fun t kt => st204 t (ls205 t kt)
 obtain ⟨T207, h207, X207, e207, W207, B207, ls207⟩ := own_iastore X205 hx hZ e205 f191 (j := (0 : Int32)) (i := 0) (by decide) (by decide) (by decide) (g := (mkF m 143 #[rv ao, rv ae, iv (Int32.ofNat ev), iv 1, rv bf, iv 0, iv k1] [.int 0, .int 0, .ref bl])) rfl rfl (hb hby d3_143)
 have N207 := Fr.snoc X207 N178 g_bl
 have f208 := f179.other W207 (Or.inl ne_ao_bl)
 have f209 := f180.other W207 (Or.inl ne_ao_bl)
 have f210 := f181.other W207 (Or.inl ne_ao_bl)
 have f211 := f182.other W207 (Or.inl ne_ao_bl)
 have f212 := f183.other W207 (Or.inl ne_ao_bl)
 have f213 := f184.other W207 (Or.inl ne_ao_bl)
 have f214 := f185.other W207 (Or.inl ne_ao_bl)
 have f215 := f186.other W207 (Or.inl ne_ao_bl)
 have f216 := f187.other W207 (Or.inl ne_ao_bl)
 have f217 := f188.wr W207
 have f218 := f189.other W207 ne_ae_bl
 have f219 := f190.wr W207 g_bl
 have f220 := f192.other W207 (Ne.symm ne_bl_bc)
 have f221 := f193.other W207 (Ne.symm ne_bl_bf)
 have f222 := f194.wr W207
 have f223 := f196.other W207 ne_bk_bl
 have z224 := Nat.le_trans z195 (Keep.of_wr W207).1
 have f225 := B207
 have st226 := fun t kt => st206 t (ls207 t kt)
 have st227 : own_K p e below T207 m 146 #[rv ao, rv ae, iv (Int32.ofNat ev), iv 1, rv bf, iv 0, iv k1] [.ref ao, .ref ao] B0 := fun t kt => st226 t (by
  refine XS.aloadN X207.here hx rfl (hb hby d3_144) rfl rfl ?_
  refine XS.dup X207.here hx rfl (hb hby d3_145) rfl rfl ?_
  exact kt)
 obtain ⟨T228, X228, e228, ls228⟩ := getF X207 hx hZ hown (host := "") (Or.inl (own_w hw 45 rfl)) Via.refl e207 f215 (g := (mkF m 146 #[rv ao, rv ae, iv (Int32.ofNat ev), iv 1, rv bf, iv 0, iv k1] [.ref ao, .ref ao])) rfl rfl (hb hby d3_146)
 have st229 := fun t kt => st227 t (ls228 t kt)
 have st230 : own_K p e below T228 m 151 #[rv ao, rv ae, iv (Int32.ofNat ev), iv 1, rv bf, iv 0, iv k1] [.int 1, .ref ao] B0 := fun t kt => st229 t (by
  refine XS.iconst X228.here hx rfl (hb hby d3_149) ?_
  refine XS.iadd X228.here hx rfl (hb hby d3_150) rfl ?_
  show own_At p e below T228 m 151 #[rv ao, rv ae, iv (Int32.ofNat ev), iv 1, rv bf, iv 0, iv k1] [(.int ((0 : Int32) + (1 : Int32))), .ref ao] _
  rw [show ((0 : Int32) + (1 : Int32)) = (1 : Int32) from (by decide +kernel)]
  exact kt)
 obtain ⟨T231, h231, X231, e231, W231, ls231⟩ := putF X228 hx hZ hown (host := "") (Or.inl (own_w hw 45 rfl)) Via.refl e228 f215 f217 (Or.inl (own_w hw 46 rfl)) (own_w hw 11 rfl) (ty := .int) (by decide) rfl rfl (g := (mkF m 151 #[rv ao, rv ae, iv (Int32.ofNat ev), iv 1, rv bf, iv 0, iv k1] [.int 1, .ref ao])) rfl rfl (hb hby d3_151)
 have N231 := Fr.snoc X231 N207 g_ao
 have f232 := f208.other W231 (Or.inr (own_s20_46 hw))
 have f233 := f209.other W231 (Or.inr (own_s22_46 hw))
 have f234 := f210.other W231 (Or.inr (own_s24_46 hw))
 have f235 := f211.other W231 (Or.inr (own_s26_46 hw))
 have f236 := f212.other W231 (Or.inr (own_s29_46 hw))
 have f237 := f213.other W231 (Or.inr (own_s33_46 hw))
 have f238 := f214.other W231 (Or.inr (own_s35_46 hw))
 have f239 := f215.same W231
 have f240 := f216.other W231 (Or.inr (own_s66_46 hw))
 have f241 := f217.wr W231
 have f242 := f218.other W231 (Ne.symm ne_ao_ae)
 have f243 := f219.wr W231 g_ao
 have f244 := f220.other W231 (Ne.symm ne_ao_bc)
 have f245 := f221.other W231 (Ne.symm ne_ao_bf)
 have f246 := f222.wr W231
 have f247 := f223.other W231 (Ne.symm ne_ao_bk)
 have f248 := f225.other W231 (Ne.symm ne_ao_bl)
 have z249 := Nat.le_trans z224 (Keep.of_wr W231).1
 have st250 := fun t kt => st230 t (ls231 t kt)
 have st251 : own_K p e below T231 m 155 #[rv ao, rv ae, iv (Int32.ofNat ev), iv 1, rv bf, iv 0, iv k1] [.ref ao] B0 := fun t kt => st250 t (by
  refine XS.aloadN X231.here hx rfl (hb hby d3_154) rfl rfl ?_
  exact kt)
 obtain ⟨T252, X252, e252, ls252⟩ := getF X231 hx hZ hown (host := "") (Or.inl (own_w hw 25 rfl)) Via.refl e231 f235 (g := (mkF m 155 #[rv ao, rv ae, iv (Int32.ofNat ev), iv 1, rv bf, iv 0, iv k1] [.ref ao])) rfl rfl (hb hby d3_155)
 have st253 := fun t kt => st251 t (ls252 t kt)
 have st254 : own_K p e below T252 m 159 #[rv ao, rv ae, iv (Int32.ofNat ev), iv 1, rv bf, iv 0, iv k1] [.ref ao, .ref bc] B0 := fun t kt => st253 t (by
  refine XS.aloadN X252.here hx rfl (hb hby d3_158) rfl rfl ?_
  exact kt)
 obtain ⟨T255, X255, e255, ls255⟩ := getF X252 hx hZ hown (host := "") (Or.inl (own_w hw 45 rfl)) Via.refl e252 f239 (g := (mkF m 159 #[rv ao, rv ae, iv (Int32.ofNat ev), iv 1, rv bf, iv 0, iv k1] [.ref ao, .ref bc])) rfl rfl (hb hby d3_159)
 have st256 := fun t kt => st254 t (ls255 t kt)
 have st257 : own_K p e below T255 m 170 #[rv ao, rv ae, iv (Int32.ofNat ev), iv 1, rv bf, iv 0, iv k1] [.int 0, .ref ae, (.int ((Int32.ofNat 0) <<< ((6 : Int32) &&& 31))), .ref bc] B0 := fun t kt => st256 t (by
  refine XS.iconst X255.here hx rfl (hb hby d3_162) ?_
  refine XS.isub X255.here hx rfl (hb hby d3_163) rfl ?_
  show own_At p e below T255 m 164 #[rv ao, rv ae, iv (Int32.ofNat ev), iv 1, rv bf, iv 0, iv k1] [(.int ((1 : Int32) - (1 : Int32))), .ref bc] _
  rw [show ((1 : Int32) - (1 : Int32)) = (Int32.ofNat 0) from (by decide +kernel)]
  refine XS.bipush X255.here hx rfl (hb hby d3_164) ?_
  refine XS.ishl X255.here hx rfl (hb hby d3_166) rfl ?_
  refine XS.aloadN X255.here hx rfl (hb hby d3_167) rfl rfl ?_
  refine XS.iload X255.here hx rfl (hb hby d3_168) rfl ?_
  exact kt)
 have ls258 := own_iaload X255 hx hZ e255 f242 (j := (0 : Int32)) (i := 0) (by decide) (by decide) (by decide) (v := (.int v1)) (hv0) (g := (mkF m 170 #[rv ao, rv ae, iv (Int32.ofNat ev), iv 1, rv bf, iv 0, iv k1] [.int 0, .ref ae, (.int ((Int32.ofNat 0) <<< ((6 : Int32) &&& 31))), .ref bc])) rfl rfl (hb hby d3_170)
 have st259 := fun t kt => st257 t (ls258 t kt)
 have st260 : own_K p e below T255 m 180 #[rv ao, rv ae, iv (Int32.ofNat ev), iv 1, rv bf, iv 0, iv k1] [(.int ((0 : Int32) + (1 : Int32))), .ref ae, (.int (Int32.ofNat (64 * 0 + own_pl v1))), .ref bc] B0 := fun t kt => st259 t (by
  refine XS.bipush X255.here hx rfl (hb hby d3_171) ?_
  refine XS.iand X255.here hx rfl (hb hby d3_173) rfl ?_
  refine XS.ior X255.here hx rfl (hb hby d3_174) rfl ?_
  show own_At p e below T255 m 175 #[rv ao, rv ae, iv (Int32.ofNat ev), iv 1, rv bf, iv 0, iv k1] [(.int (((Int32.ofNat 0) <<< ((6 : Int32) &&& 31)) ||| (v1 &&& (63 : Int32)))), .ref bc] _
  rw [show (((Int32.ofNat 0) <<< ((6 : Int32) &&& 31)) ||| (v1 &&& (63 : Int32))) = (Int32.ofNat (64 * 0 + own_pl v1)) from (own_idx6 0 v1 (by decide))]
  refine XS.aloadN X255.here hx rfl (hb hby d3_175) rfl rfl ?_
  refine XS.iload X255.here hx rfl (hb hby d3_176) rfl ?_
  refine XS.iconst X255.here hx rfl (hb hby d3_178) ?_
  refine XS.iadd X255.here hx rfl (hb hby d3_179) rfl ?_
  exact kt)
 have ls261 := own_iaload X255 hx hZ e255 f242 (j := ((0 : Int32) + (1 : Int32))) (i := 1) (by decide) (by decide) (by decide) (v := (.int c1)) (hc0) (g := (mkF m 180 #[rv ao, rv ae, iv (Int32.ofNat ev), iv 1, rv bf, iv 0, iv k1] [(.int ((0 : Int32) + (1 : Int32))), .ref ae, (.int (Int32.ofNat (64 * 0 + own_pl v1))), .ref bc])) rfl rfl (hb hby d3_180)
 have st262 := fun t kt => st260 t (ls261 t kt)
 have pl0 := own_pl_lt v1
 have xx0 := own_nat32 (show (64 * 0 + own_pl v1) < 2 ^ 31 by omega)
 obtain ⟨T264, h264, X264, e264, W264, B264, ls264⟩ := own_iastore X255 hx hZ e255 f244 (j := (Int32.ofNat (64 * 0 + own_pl v1))) (i := (64 * 0 + own_pl v1)) (xx0.2) (xx0.1) (by omega) (g := (mkF m 181 #[rv ao, rv ae, iv (Int32.ofNat ev), iv 1, rv bf, iv 0, iv k1] [.int c1, (.int (Int32.ofNat (64 * 0 + own_pl v1))), .ref bc])) rfl rfl (hb hby d3_181)
 have N264 := Fr.snoc X264 N231 g_bc
 have f265 := f232.other W264 (Or.inl ne_ao_bc)
 have f266 := f233.other W264 (Or.inl ne_ao_bc)
 have f267 := f234.other W264 (Or.inl ne_ao_bc)
 have f268 := f235.other W264 (Or.inl ne_ao_bc)
 have f269 := f236.other W264 (Or.inl ne_ao_bc)
 have f270 := f237.other W264 (Or.inl ne_ao_bc)
 have f271 := f238.other W264 (Or.inl ne_ao_bc)
 have f272 := f239.other W264 (Or.inl ne_ao_bc)
 have f273 := f240.other W264 (Or.inl ne_ao_bc)
 have f274 := f241.wr W264
 have f275 := f242.other W264 ne_ae_bc
 have f276 := f243.wr W264 g_bc
 have f277 := f245.other W264 (Ne.symm ne_bc_bf)
 have f278 := f246.wr W264
 have f279 := f247.other W264 ne_bk_bc
 have f280 := f248.other W264 ne_bl_bc
 have z281 := Nat.le_trans z249 (Keep.of_wr W264).1
 have f282 := B264
 have st283 := fun t kt => st262 t (ls264 t kt)
 have st284 : own_K p e below T264 m 185 #[rv ao, rv ae, iv (Int32.ofNat ev), iv 1, rv bf, iv 0, iv k1] [.ref ao, .ref bf] B0 := fun t kt => st283 t (by
  refine XS.aload X264.here hx rfl (hb hby d3_182) rfl rfl ?_
  refine XS.aloadN X264.here hx rfl (hb hby d3_184) rfl rfl ?_
  exact kt)
 obtain ⟨T285, X285, e285, ls285⟩ := getF X264 hx hZ hown (host := "") (Or.inl (own_w hw 45 rfl)) Via.refl e264 f272 (g := (mkF m 185 #[rv ao, rv ae, iv (Int32.ofNat ev), iv 1, rv bf, iv 0, iv k1] [.ref ao, .ref bf])) rfl rfl (hb hby d3_185)
 have st286 := fun t kt => st284 t (ls285 t kt)
 have st287 : own_K p e below T285 m 191 #[rv ao, rv ae, iv (Int32.ofNat ev), iv 1, rv bf, iv 0, iv k1] [.int 0, .ref bf, .int 0, .ref bf] B0 := fun t kt => st286 t (by
  refine XS.iconst X285.here hx rfl (hb hby d3_188) ?_
  refine XS.isub X285.here hx rfl (hb hby d3_189) rfl ?_
  show own_At p e below T285 m 190 #[rv ao, rv ae, iv (Int32.ofNat ev), iv 1, rv bf, iv 0, iv k1] [(.int ((1 : Int32) - (1 : Int32))), .ref bf] _
  rw [show ((1 : Int32) - (1 : Int32)) = (0 : Int32) from (by decide +kernel)]
  show own_At p e below T285 m 190 #[rv ao, rv ae, iv (Int32.ofNat ev), iv 1, rv bf, iv 0, iv k1] [.int 0, .ref bf] _
  jvm_step X285.here [X285.here.top, hx, (hb hby d3_190), Value.category]
  exact kt)
 have ls288 := own_laload X285 hx hZ e285 f277 (j := (0 : Int32)) (i := 0) (by decide) (by decide) (by decide) (v := (.long (0 : Int64))) (rfl) (g := (mkF m 191 #[rv ao, rv ae, iv (Int32.ofNat ev), iv 1, rv bf, iv 0, iv k1] [.int 0, .ref bf, .int 0, .ref bf])) rfl rfl (hb hby d3_191)
 have st289 := fun t kt => st287 t (ls288 t kt)
 have st290 : own_K p e below T285 m 196 #[rv ao, rv ae, iv (Int32.ofNat ev), iv 1, rv bf, iv 0, iv k1] [.int 0, .ref ae, .long (1 : Int64), .long (0 : Int64), .int 0, .ref bf] B0 := fun t kt => st289 t (by
  refine XS.lconst X285.here hx rfl (hb hby d3_192) ?_
  refine XS.aloadN X285.here hx rfl (hb hby d3_193) rfl rfl ?_
  refine XS.iload X285.here hx rfl (hb hby d3_194) rfl ?_
  exact kt)
 have ls291 := own_iaload X285 hx hZ e285 f275 (j := (0 : Int32)) (i := 0) (by decide) (by decide) (by decide) (v := (.int v1)) (hv0) (g := (mkF m 196 #[rv ao, rv ae, iv (Int32.ofNat ev), iv 1, rv bf, iv 0, iv k1] [.int 0, .ref ae, .long (1 : Int64), .long (0 : Int64), .int 0, .ref bf])) rfl rfl (hb hby d3_196)
 have st292 := fun t kt => st290 t (ls291 t kt)
 obtain ⟨x_f0, h_x_f0⟩ : ∃ z : Int64, z = ((0 : Int64) ||| ((1 : Int64) <<< ((v1 &&& (63 : Int32)) &&& 0x3f).toInt64)) := ⟨_, rfl⟩
 have st293 : own_K p e below T285 m 202 #[rv ao, rv ae, iv (Int32.ofNat ev), iv 1, rv bf, iv 0, iv k1] [.long x_f0, .int 0, .ref bf] B0 := fun t kt => st292 t (by
  refine XS.bipush X285.here hx rfl (hb hby d3_197) ?_
  refine XS.iand X285.here hx rfl (hb hby d3_199) rfl ?_
  refine XS.lshl X285.here hx rfl (hb hby d3_200) rfl ?_
  refine XS.lor X285.here hx rfl (hb hby d3_201) rfl ?_
  show own_At p e below T285 m 202 #[rv ao, rv ae, iv (Int32.ofNat ev), iv 1, rv bf, iv 0, iv k1] [(.long ((0 : Int64) ||| ((1 : Int64) <<< ((v1 &&& (63 : Int32)) &&& 0x3f).toInt64))), .int 0, .ref bf] _
  rw [← h_x_f0]
  exact kt)
 obtain ⟨T294, h294, X294, e294, W294, B294, ls294⟩ := own_lastore X285 hx hZ e285 f277 (j := (0 : Int32)) (i := 0) (by decide) (by decide) (by decide) (g := (mkF m 202 #[rv ao, rv ae, iv (Int32.ofNat ev), iv 1, rv bf, iv 0, iv k1] [.long x_f0, .int 0, .ref bf])) rfl rfl (hb hby d3_202)
 have N294 := Fr.snoc X294 N264 g_bf
 have f295 := f265.other W294 (Or.inl ne_ao_bf)
 have f296 := f266.other W294 (Or.inl ne_ao_bf)
 have f297 := f267.other W294 (Or.inl ne_ao_bf)
 have f298 := f268.other W294 (Or.inl ne_ao_bf)
 have f299 := f269.other W294 (Or.inl ne_ao_bf)
 have f300 := f270.other W294 (Or.inl ne_ao_bf)
 have f301 := f271.other W294 (Or.inl ne_ao_bf)
 have f302 := f272.other W294 (Or.inl ne_ao_bf)
 have f303 := f273.other W294 (Or.inl ne_ao_bf)
 have f304 := f274.wr W294
 have f305 := f275.other W294 ne_ae_bf
 have f306 := f276.wr W294 g_bf
 have f307 := f278.wr W294
 have f308 := f279.other W294 ne_bk_bf
 have f309 := f280.other W294 ne_bl_bf
 have f310 := f282.other W294 ne_bc_bf
 have z311 := Nat.le_trans z281 (Keep.of_wr W294).1
 have f312 := B294
 have st313 := fun t kt => st293 t (ls294 t kt)
 have st314 : own_K p e below T294 m 84 #[rv ao, rv ae, iv (Int32.ofNat ev), iv 1, rv bf, iv ((0 : Int32) + (2 : Int32)), iv k1] [.ref ae, (.int ((0 : Int32) + (2 : Int32)))] B0 := fun t kt => st313 t (by
  refine XS.iinc X294.here hx rfl (hb hby d3_203) rfl (l' := #[rv ao, rv ae, iv (Int32.ofNat ev), iv 1, rv bf, iv ((0 : Int32) + (2 : Int32)), iv k1]) rfl ?_
  refine XS.goto X294.here hx rfl (pc0 := 206) (pc' := 81) rfl (hb hby d3_206) (by decide) (by decide) ?_
  refine XS.iload X294.here hx rfl (hb hby d3_81) rfl ?_
  refine XS.aloadN X294.here hx rfl (hb hby d3_83) rfl rfl ?_
  exact kt)
 have ls315 := own_alen X294 hx hZ e294 f305 (g := (mkF m 84 #[rv ao, rv ae, iv (Int32.ofNat ev), iv 1, rv bf, iv ((0 : Int32) + (2 : Int32)), iv k1] [.ref ae, (.int ((0 : Int32) + (2 : Int32)))])) rfl rfl (hb hby d3_84)
 have st316 := fun t kt => st314 t (ls315 t kt)
 have hc317 : ((0 : Int32) + (2 : Int32)) < (4 : Int32) := by decide
 have st318 : own_K p e below T294 m 91 #[rv ao, rv ae, iv (Int32.ofNat ev), iv 1, rv bf, iv ((0 : Int32) + (2 : Int32)), iv k1] [(.int ((0 : Int32) + (2 : Int32))), .ref ae] B0 := fun t kt => st316 t (by
  refine XS.icmpNo X294.here hx rfl (hb hby d3_85) rfl (tlt hc317).2.1 ?_
  refine XS.aloadN X294.here hx rfl (hb hby d3_88) rfl rfl ?_
  refine XS.iload X294.here hx rfl (hb hby d3_89) rfl ?_
  exact kt)
 have ls319 := own_iaload X294 hx hZ e294 f305 (j := ((0 : Int32) + (2 : Int32))) (i := 2) (by decide) (by decide) (by decide) (v := (.int v2)) (hv1) (g := (mkF m 91 #[rv ao, rv ae, iv (Int32.ofNat ev), iv 1, rv bf, iv ((0 : Int32) + (2 : Int32)), iv k1] [(.int ((0 : Int32) + (2 : Int32))), .ref ae])) rfl rfl (hb hby d3_91)
 have st320 := fun t kt => st318 t (ls319 t kt)
 obtain ⟨k2, h_k2⟩ : ∃ z : Int32, z = ((v2.toUInt32 >>> ((6 : Int32) &&& 31).toUInt32).toInt32) := ⟨_, rfl⟩
 have st321 : own_K p e below T294 m 98 #[rv ao, rv ae, iv (Int32.ofNat ev), iv 1, rv bf, iv ((0 : Int32) + (2 : Int32)), iv k2] [.ref ao] B0 := fun t kt => st320 t (by
  refine XS.bipush X294.here hx rfl (hb hby d3_92) ?_
  refine XS.iushr X294.here hx rfl (hb hby d3_94) rfl ?_
  show own_At p e below T294 m 95 #[rv ao, rv ae, iv (Int32.ofNat ev), iv 1, rv bf, iv ((0 : Int32) + (2 : Int32)), iv k1] [(.int ((v2.toUInt32 >>> ((6 : Int32) &&& 31).toUInt32).toInt32))] _
  rw [← h_k2]
  refine XS.istore X294.here hx rfl (hb hby d3_95) rfl (l' := #[rv ao, rv ae, iv (Int32.ofNat ev), iv 1, rv bf, iv ((0 : Int32) + (2 : Int32)), iv k2]) rfl ?_
  refine XS.aloadN X294.here hx rfl (hb hby d3_97) rfl rfl ?_
  exact kt)
 obtain ⟨T322, X322, e322, ls322⟩ := getF X294 hx hZ hown (host := "") (Or.inl (own_w hw 45 rfl)) Via.refl e294 f302 (g := (mkF m 98 #[rv ao, rv ae, iv (Int32.ofNat ev), iv 1, rv bf, iv ((0 : Int32) + (2 : Int32)), iv k2] [.ref ao])) rfl rfl (hb hby d3_98)
 have st323 := fun t kt => st321 t (ls322 t kt)
 have hc324 : ¬ ((1 : Int32) = (0 : Int32)) := by decide
 have st325 : own_K p e below T322 m 105 #[rv ao, rv ae, iv (Int32.ofNat ev), iv 1, rv bf, iv ((0 : Int32) + (2 : Int32)), iv k2] [.ref ao] B0 := fun t kt => st323 t (by
  refine XS.ifNo X322.here hx rfl (hb hby d3_101) rfl ((if0 _ _).trans (feq hc324).1) ?_
  refine XS.aloadN X322.here hx rfl (hb hby d3_104) rfl rfl ?_
  exact kt)
 obtain ⟨T326, X326, e326, ls326⟩ := getF X322 hx hZ hown (host := "") (Or.inl (own_w hw 21 rfl)) Via.refl e322 f296 (g := (mkF m 105 #[rv ao, rv ae, iv (Int32.ofNat ev), iv 1, rv bf, iv ((0 : Int32) + (2 : Int32)), iv k2] [.ref ao])) rfl rfl (hb hby d3_105)
 have st327 := fun t kt => st325 t (ls326 t kt)
 have st328 : own_K p e below T326 m 109 #[rv ao, rv ae, iv (Int32.ofNat ev), iv 1, rv bf, iv ((0 : Int32) + (2 : Int32)), iv k2] [.ref ao, .ref bk] B0 := fun t kt => st327 t (by
  refine XS.aloadN X326.here hx rfl (hb hby d3_108) rfl rfl ?_
  exact kt)
 obtain ⟨T329, X329, e329, ls329⟩ := getF X326 hx hZ hown (host := "") (Or.inl (own_w hw 45 rfl)) Via.refl e326 f302 (g := (mkF m 109 #[rv ao, rv ae, iv (Int32.ofNat ev), iv 1, rv bf, iv ((0 : Int32) + (2 : Int32)), iv k2] [.ref ao, .ref bk])) rfl rfl (hb hby d3_109)
 have st330 := fun t kt => st328 t (ls329 t kt)
 have st331 : own_K p e below T329 m 114 #[rv ao, rv ae, iv (Int32.ofNat ev), iv 1, rv bf, iv ((0 : Int32) + (2 : Int32)), iv k2] [(.int ((1 : Int32) - (1 : Int32))), .ref bk] B0 := fun t kt => st330 t (by
  refine XS.iconst X329.here hx rfl (hb hby d3_112) ?_
  refine XS.isub X329.here hx rfl (hb hby d3_113) rfl ?_
  exact kt)
 have ls332 := own_iaload X329 hx hZ e329 f308 (j := ((1 : Int32) - (1 : Int32))) (i := 0) (by decide) (by decide) (by decide) (v := (.int k1)) (rfl) (g := (mkF m 114 #[rv ao, rv ae, iv (Int32.ofNat ev), iv 1, rv bf, iv ((0 : Int32) + (2 : Int32)), iv k2] [(.int ((1 : Int32) - (1 : Int32))), .ref bk])) rfl rfl (hb hby d3_114)
 have st333 := fun t kt => st331 t (ls332 t kt)
 have hc334 : k1 = k2 := h_k1.trans (hkk.symm.trans h_k2.symm)
 have st335 : own_K p e below T329 m 155 #[rv ao, rv ae, iv (Int32.ofNat ev), iv 1, rv bf, iv ((0 : Int32) + (2 : Int32)), iv k2] [.ref ao] B0 := fun t kt => st333 t (by
  refine XS.iload X329.here hx rfl (hb hby d3_115) rfl ?_
  refine XS.icmpYes X329.here hx rfl (pc0 := 117) (pc' := 154) rfl (hb hby d3_117) rfl (teq hc334).1 (by decide) (by decide) ?_
  refine XS.aloadN X329.here hx rfl (hb hby d3_154) rfl rfl ?_
  exact kt)
 obtain ⟨T336, X336, e336, ls336⟩ := getF X329 hx hZ hown (host := "") (Or.inl (own_w hw 25 rfl)) Via.refl e329 f298 (g := (mkF m 155 #[rv ao, rv ae, iv (Int32.ofNat ev), iv 1, rv bf, iv ((0 : Int32) + (2 : Int32)), iv k2] [.ref ao])) rfl rfl (hb hby d3_155)
 have st337 := fun t kt => st335 t (ls336 t kt)
 have st338 : own_K p e below T336 m 159 #[rv ao, rv ae, iv (Int32.ofNat ev), iv 1, rv bf, iv ((0 : Int32) + (2 : Int32)), iv k2] [.ref ao, .ref bc] B0 := fun t kt => st337 t (by
  refine XS.aloadN X336.here hx rfl (hb hby d3_158) rfl rfl ?_
  exact kt)
 obtain ⟨T339, X339, e339, ls339⟩ := getF X336 hx hZ hown (host := "") (Or.inl (own_w hw 45 rfl)) Via.refl e336 f302 (g := (mkF m 159 #[rv ao, rv ae, iv (Int32.ofNat ev), iv 1, rv bf, iv ((0 : Int32) + (2 : Int32)), iv k2] [.ref ao, .ref bc])) rfl rfl (hb hby d3_159)
 have st340 := fun t kt => st338 t (ls339 t kt)
 have st341 : own_K p e below T339 m 170 #[rv ao, rv ae, iv (Int32.ofNat ev), iv 1, rv bf, iv ((0 : Int32) + (2 : Int32)), iv k2] [(.int ((0 : Int32) + (2 : Int32))), .ref ae, (.int ((Int32.ofNat 0) <<< ((6 : Int32) &&& 31))), .ref bc] B0 := fun t kt => st340 t (by
  refine XS.iconst X339.here hx rfl (hb hby d3_162) ?_
  refine XS.isub X339.here hx rfl (hb hby d3_163) rfl ?_
  show own_At p e below T339 m 164 #[rv ao, rv ae, iv (Int32.ofNat ev), iv 1, rv bf, iv ((0 : Int32) + (2 : Int32)), iv k2] [(.int ((1 : Int32) - (1 : Int32))), .ref bc] _
  rw [show ((1 : Int32) - (1 : Int32)) = (Int32.ofNat 0) from (by decide +kernel)]
  refine XS.bipush X339.here hx rfl (hb hby d3_164) ?_
  refine XS.ishl X339.here hx rfl (hb hby d3_166) rfl ?_
  refine XS.aloadN X339.here hx rfl (hb hby d3_167) rfl rfl ?_
  refine XS.iload X339.here hx rfl (hb hby d3_168) rfl ?_
  exact kt)
 have ls342 := own_iaload X339 hx hZ e339 f305 (j := ((0 : Int32) + (2 : Int32))) (i := 2) (by decide) (by decide) (by decide) (v := (.int v2)) (hv1) (g := (mkF m 170 #[rv ao, rv ae, iv (Int32.ofNat ev), iv 1, rv bf, iv ((0 : Int32) + (2 : Int32)), iv k2] [(.int ((0 : Int32) + (2 : Int32))), .ref ae, (.int ((Int32.ofNat 0) <<< ((6 : Int32) &&& 31))), .ref bc])) rfl rfl (hb hby d3_170)
 have st343 := fun t kt => st341 t (ls342 t kt)
 have st344 : own_K p e below T339 m 180 #[rv ao, rv ae, iv (Int32.ofNat ev), iv 1, rv bf, iv ((0 : Int32) + (2 : Int32)), iv k2] [(.int (((0 : Int32) + (2 : Int32)) + (1 : Int32))), .ref ae, (.int (Int32.ofNat (64 * 0 + own_pl v2))), .ref bc] B0 := fun t kt => st343 t (by
  refine XS.bipush X339.here hx rfl (hb hby d3_171) ?_
  refine XS.iand X339.here hx rfl (hb hby d3_173) rfl ?_
  refine XS.ior X339.here hx rfl (hb hby d3_174) rfl ?_
  show own_At p e below T339 m 175 #[rv ao, rv ae, iv (Int32.ofNat ev), iv 1, rv bf, iv ((0 : Int32) + (2 : Int32)), iv k2] [(.int (((Int32.ofNat 0) <<< ((6 : Int32) &&& 31)) ||| (v2 &&& (63 : Int32)))), .ref bc] _
  rw [show (((Int32.ofNat 0) <<< ((6 : Int32) &&& 31)) ||| (v2 &&& (63 : Int32))) = (Int32.ofNat (64 * 0 + own_pl v2)) from (own_idx6 0 v2 (by decide))]
  refine XS.aloadN X339.here hx rfl (hb hby d3_175) rfl rfl ?_
  refine XS.iload X339.here hx rfl (hb hby d3_176) rfl ?_
  refine XS.iconst X339.here hx rfl (hb hby d3_178) ?_
  refine XS.iadd X339.here hx rfl (hb hby d3_179) rfl ?_
  exact kt)
 have ls345 := own_iaload X339 hx hZ e339 f305 (j := (((0 : Int32) + (2 : Int32)) + (1 : Int32))) (i := 3) (by decide) (by decide) (by decide) (v := (.int c2)) (hc1) (g := (mkF m 180 #[rv ao, rv ae, iv (Int32.ofNat ev), iv 1, rv bf, iv ((0 : Int32) + (2 : Int32)), iv k2] [(.int (((0 : Int32) + (2 : Int32)) + (1 : Int32))), .ref ae, (.int (Int32.ofNat (64 * 0 + own_pl v2))), .ref bc])) rfl rfl (hb hby d3_180)
 have st346 := fun t kt => st344 t (ls345 t kt)
 have pl1 := own_pl_lt v2
 have xx1 := own_nat32 (show (64 * 0 + own_pl v2) < 2 ^ 31 by omega)
 obtain ⟨T348, h348, X348, e348, W348, B348, ls348⟩ := own_iastore X339 hx hZ e339 f310 (j := (Int32.ofNat (64 * 0 + own_pl v2))) (i := (64 * 0 + own_pl v2)) (xx1.2) (xx1.1) (by omega) (g := (mkF m 181 #[rv ao, rv ae, iv (Int32.ofNat ev), iv 1, rv bf, iv ((0 : Int32) + (2 : Int32)), iv k2] [.int c2, (.int (Int32.ofNat (64 * 0 + own_pl v2))), .ref bc])) rfl rfl (hb hby d3_181)
 have N348 := Fr.snoc X348 N294 g_bc
 have f349 := f295.other W348 (Or.inl ne_ao_bc)
 have f350 := f296.other W348 (Or.inl ne_ao_bc)
 have f351 := f297.other W348 (Or.inl ne_ao_bc)
 have f352 := f298.other W348 (Or.inl ne_ao_bc)
 have f353 := f299.other W348 (Or.inl ne_ao_bc)
 have f354 := f300.other W348 (Or.inl ne_ao_bc)
 have f355 := f301.other W348 (Or.inl ne_ao_bc)
 have f356 := f302.other W348 (Or.inl ne_ao_bc)
 have f357 := f303.other W348 (Or.inl ne_ao_bc)
 have f358 := f304.wr W348
 have f359 := f305.other W348 ne_ae_bc
 have f360 := f306.wr W348 g_bc
 have f361 := f307.wr W348
 have f362 := f308.other W348 ne_bk_bc
 have f363 := f309.other W348 ne_bl_bc
 have f364 := f312.other W348 (Ne.symm ne_bc_bf)
 have z365 := Nat.le_trans z311 (Keep.of_wr W348).1
 have f366 := B348
 have st367 := fun t kt => st346 t (ls348 t kt)
 have st368 : own_K p e below T348 m 185 #[rv ao, rv ae, iv (Int32.ofNat ev), iv 1, rv bf, iv ((0 : Int32) + (2 : Int32)), iv k2] [.ref ao, .ref bf] B0 := fun t kt => st367 t (by
  refine XS.aload X348.here hx rfl (hb hby d3_182) rfl rfl ?_
  refine XS.aloadN X348.here hx rfl (hb hby d3_184) rfl rfl ?_
  exact kt)
 obtain ⟨T369, X369, e369, ls369⟩ := getF X348 hx hZ hown (host := "") (Or.inl (own_w hw 45 rfl)) Via.refl e348 f356 (g := (mkF m 185 #[rv ao, rv ae, iv (Int32.ofNat ev), iv 1, rv bf, iv ((0 : Int32) + (2 : Int32)), iv k2] [.ref ao, .ref bf])) rfl rfl (hb hby d3_185)
 have st370 := fun t kt => st368 t (ls369 t kt)
 have st371 : own_K p e below T369 m 191 #[rv ao, rv ae, iv (Int32.ofNat ev), iv 1, rv bf, iv ((0 : Int32) + (2 : Int32)), iv k2] [.int 0, .ref bf, .int 0, .ref bf] B0 := fun t kt => st370 t (by
  refine XS.iconst X369.here hx rfl (hb hby d3_188) ?_
  refine XS.isub X369.here hx rfl (hb hby d3_189) rfl ?_
  show own_At p e below T369 m 190 #[rv ao, rv ae, iv (Int32.ofNat ev), iv 1, rv bf, iv ((0 : Int32) + (2 : Int32)), iv k2] [(.int ((1 : Int32) - (1 : Int32))), .ref bf] _
  rw [show ((1 : Int32) - (1 : Int32)) = (0 : Int32) from (by decide +kernel)]
  show own_At p e below T369 m 190 #[rv ao, rv ae, iv (Int32.ofNat ev), iv 1, rv bf, iv ((0 : Int32) + (2 : Int32)), iv k2] [.int 0, .ref bf] _
  jvm_step X369.here [X369.here.top, hx, (hb hby d3_190), Value.category]
  exact kt)
 have ls372 := own_laload X369 hx hZ e369 f364 (j := (0 : Int32)) (i := 0) (by decide) (by decide) (by decide) (v := (.long x_f0)) (rfl) (g := (mkF m 191 #[rv ao, rv ae, iv (Int32.ofNat ev), iv 1, rv bf, iv ((0 : Int32) + (2 : Int32)), iv k2] [.int 0, .ref bf, .int 0, .ref bf])) rfl rfl (hb hby d3_191)
 have st373 := fun t kt => st371 t (ls372 t kt)
 have st374 : own_K p e below T369 m 196 #[rv ao, rv ae, iv (Int32.ofNat ev), iv 1, rv bf, iv ((0 : Int32) + (2 : Int32)), iv k2] [(.int ((0 : Int32) + (2 : Int32))), .ref ae, .long (1 : Int64), .long x_f0, .int 0, .ref bf] B0 := fun t kt => st373 t (by
  refine XS.lconst X369.here hx rfl (hb hby d3_192) ?_
  refine XS.aloadN X369.here hx rfl (hb hby d3_193) rfl rfl ?_
  refine XS.iload X369.here hx rfl (hb hby d3_194) rfl ?_
  exact kt)
 have ls375 := own_iaload X369 hx hZ e369 f359 (j := ((0 : Int32) + (2 : Int32))) (i := 2) (by decide) (by decide) (by decide) (v := (.int v2)) (hv1) (g := (mkF m 196 #[rv ao, rv ae, iv (Int32.ofNat ev), iv 1, rv bf, iv ((0 : Int32) + (2 : Int32)), iv k2] [(.int ((0 : Int32) + (2 : Int32))), .ref ae, .long (1 : Int64), .long x_f0, .int 0, .ref bf])) rfl rfl (hb hby d3_196)
 have st376 := fun t kt => st374 t (ls375 t kt)
 obtain ⟨x_f1, h_x_f1⟩ : ∃ z : Int64, z = (x_f0 ||| ((1 : Int64) <<< ((v2 &&& (63 : Int32)) &&& 0x3f).toInt64)) := ⟨_, rfl⟩
 have st377 : own_K p e below T369 m 202 #[rv ao, rv ae, iv (Int32.ofNat ev), iv 1, rv bf, iv ((0 : Int32) + (2 : Int32)), iv k2] [.long x_f1, .int 0, .ref bf] B0 := fun t kt => st376 t (by
  refine XS.bipush X369.here hx rfl (hb hby d3_197) ?_
  refine XS.iand X369.here hx rfl (hb hby d3_199) rfl ?_
  refine XS.lshl X369.here hx rfl (hb hby d3_200) rfl ?_
  refine XS.lor X369.here hx rfl (hb hby d3_201) rfl ?_
  show own_At p e below T369 m 202 #[rv ao, rv ae, iv (Int32.ofNat ev), iv 1, rv bf, iv ((0 : Int32) + (2 : Int32)), iv k2] [(.long (x_f0 ||| ((1 : Int64) <<< ((v2 &&& (63 : Int32)) &&& 0x3f).toInt64))), .int 0, .ref bf] _
  rw [← h_x_f1]
  exact kt)
 obtain ⟨T378, h378, X378, e378, W378, B378, ls378⟩ := own_lastore X369 hx hZ e369 f364 (j := (0 : Int32)) (i := 0) (by decide) (by decide) (by decide) (g := (mkF m 202 #[rv ao, rv ae, iv (Int32.ofNat ev), iv 1, rv bf, iv ((0 : Int32) + (2 : Int32)), iv k2] [.long x_f1, .int 0, .ref bf])) rfl rfl (hb hby d3_202)
 have N378 := Fr.snoc X378 N348 g_bf
 have f379 := f349.other W378 (Or.inl ne_ao_bf)
 have f380 := f350.other W378 (Or.inl ne_ao_bf)
 have f381 := f351.other W378 (Or.inl ne_ao_bf)
 have f382 := f352.other W378 (Or.inl ne_ao_bf)
 have f383 := f353.other W378 (Or.inl ne_ao_bf)
 have f384 := f354.other W378 (Or.inl ne_ao_bf)
 have f385 := f355.other W378 (Or.inl ne_ao_bf)
 have f386 := f356.other W378 (Or.inl ne_ao_bf)
 have f387 := f357.other W378 (Or.inl ne_ao_bf)
 have f388 := f358.wr W378
 have f389 := f359.other W378 ne_ae_bf
 have f390 := f360.wr W378 g_bf
 have f391 := f361.wr W378
 have f392 := f362.other W378 ne_bk_bf
 have f393 := f363.other W378 ne_bl_bf
 have f394 := f366.other W378 ne_bc_bf
 have z395 := Nat.le_trans z365 (Keep.of_wr W378).1
 have f396 := B378
 have st397 := fun t kt => st377 t (ls378 t kt)
 have st398 : own_K p e below T378 m 84 #[rv ao, rv ae, iv (Int32.ofNat ev), iv 1, rv bf, iv (((0 : Int32) + (2 : Int32)) + (2 : Int32)), iv k2] [.ref ae, (.int (((0 : Int32) + (2 : Int32)) + (2 : Int32)))] B0 := fun t kt => st397 t (by
  refine XS.iinc X378.here hx rfl (hb hby d3_203) rfl (l' := #[rv ao, rv ae, iv (Int32.ofNat ev), iv 1, rv bf, iv (((0 : Int32) + (2 : Int32)) + (2 : Int32)), iv k2]) rfl ?_
  refine XS.goto X378.here hx rfl (pc0 := 206) (pc' := 81) rfl (hb hby d3_206) (by decide) (by decide) ?_
  refine XS.iload X378.here hx rfl (hb hby d3_81) rfl ?_
  refine XS.aloadN X378.here hx rfl (hb hby d3_83) rfl rfl ?_
  exact kt)
 have ls399 := own_alen X378 hx hZ e378 f389 (g := (mkF m 84 #[rv ao, rv ae, iv (Int32.ofNat ev), iv 1, rv bf, iv (((0 : Int32) + (2 : Int32)) + (2 : Int32)), iv k2] [.ref ae, (.int (((0 : Int32) + (2 : Int32)) + (2 : Int32)))])) rfl rfl (hb hby d3_84)
 have st400 := fun t kt => st398 t (ls399 t kt)
 have hc401 : ¬ ((((0 : Int32) + (2 : Int32)) + (2 : Int32)) < (4 : Int32)) := by decide
 have st402 : own_K p e below T378 m 211 #[rv ao, rv ae, iv (Int32.ofNat ev), iv 1, rv bf, iv (((0 : Int32) + (2 : Int32)) + (2 : Int32)), iv k2] [.ref ae, .ref ao] B0 := fun t kt => st400 t (by
  refine XS.icmpYes X378.here hx rfl (pc0 := 85) (pc' := 209) rfl (hb hby d3_85) rfl (flt hc401).2.1 (by decide) (by decide) ?_
  refine XS.aloadN X378.here hx rfl (hb hby d3_209) rfl rfl ?_
  refine XS.aloadN X378.here hx rfl (hb hby d3_210) rfl rfl ?_
  exact kt)
 have ls403 := own_alen X378 hx hZ e378 f389 (g := (mkF m 211 #[rv ao, rv ae, iv (Int32.ofNat ev), iv 1, rv bf, iv (((0 : Int32) + (2 : Int32)) + (2 : Int32)), iv k2] [.ref ae, .ref ao])) rfl rfl (hb hby d3_211)
 have st404 := fun t kt => st402 t (ls403 t kt)
 have st405 : own_K p e below T378 m 214 #[rv ao, rv ae, iv (Int32.ofNat ev), iv 1, rv bf, iv (((0 : Int32) + (2 : Int32)) + (2 : Int32)), iv k2] [.int 2, .ref ao] B0 := fun t kt => st404 t (by
  refine XS.iconst X378.here hx rfl (hb hby d3_212) ?_
  refine XS.idiv X378.here hx rfl (hb hby d3_213) rfl (by decide) ?_
  show own_At p e below T378 m 214 #[rv ao, rv ae, iv (Int32.ofNat ev), iv 1, rv bf, iv (((0 : Int32) + (2 : Int32)) + (2 : Int32)), iv k2] [(.int ((4 : Int32) / (2 : Int32))), .ref ao] _
  rw [show ((4 : Int32) / (2 : Int32)) = (2 : Int32) from (by decide +kernel)]
  exact kt)
 obtain ⟨T406, h406, X406, e406, W406, ls406⟩ := putF X378 hx hZ hown (host := "") (Or.inl (own_w hw 28 rfl)) Via.refl e378 f383 f388 (Or.inl (own_w hw 29 rfl)) (own_w hw 11 rfl) (ty := .int) (by decide) rfl rfl (g := (mkF m 214 #[rv ao, rv ae, iv (Int32.ofNat ev), iv 1, rv bf, iv (((0 : Int32) + (2 : Int32)) + (2 : Int32)), iv k2] [.int 2, .ref ao])) rfl rfl (hb hby d3_214)
 have N406 := Fr.snoc X406 N378 g_ao
 have f407 := f379.other W406 (Or.inr (own_s20_29 hw))
 have f408 := f380.other W406 (Or.inr (own_s22_29 hw))
 have f409 := f381.other W406 (Or.inr (own_s24_29 hw))
 have f410 := f382.other W406 (Or.inr (own_s26_29 hw))
 have f411 := f383.same W406
 have f412 := f384.other W406 (Or.inr (own_s33_29 hw))
 have f413 := f385.other W406 (Or.inr (own_s35_29 hw))
 have f414 := f386.other W406 (Or.inr (own_s46_29 hw))
 have f415 := f387.other W406 (Or.inr (own_s66_29 hw))
 have f416 := f388.wr W406
 have f417 := f389.other W406 (Ne.symm ne_ao_ae)
 have f418 := f390.wr W406 g_ao
 have f419 := f391.wr W406
 have f420 := f392.other W406 (Ne.symm ne_ao_bk)
 have f421 := f393.other W406 (Ne.symm ne_ao_bl)
 have f422 := f394.other W406 (Ne.symm ne_ao_bc)
 have f423 := f396.other W406 (Ne.symm ne_ao_bf)
 have z424 := Nat.le_trans z395 (Keep.of_wr W406).1
 have st425 := fun t kt => st405 t (ls406 t kt)
 have vv := own_nat32 (show ev < 2 ^ 31 by omega)
 have st426 : own_K p e below T406 m 219 #[rv ao, rv ae, iv (Int32.ofNat ev), iv 1, rv bf, iv (((0 : Int32) + (2 : Int32)) + (2 : Int32)), iv k2] [.int (Int32.ofNat ev), .ref ao] B0 := fun t kt => st425 t (by
  refine XS.aloadN X406.here hx rfl (hb hby d3_217) rfl rfl ?_
  refine XS.iloadN X406.here hx rfl (hb hby d3_218) rfl ?_
  exact kt)
 obtain ⟨T427, h427, c427, X427, e427, E427, A427, B427, O427, ls427⟩ := newRA X406 hx hZ hown (C := "[J") (ty := .long) (by decide) (own_w hw 30 rfl) (own_w hw 31 rfl) e406 (g := (mkF m 219 #[rv ao, rv ae, iv (Int32.ofNat ev), iv 1, rv bf, iv (((0 : Int32) + (2 : Int32)) + (2 : Int32)), iv k2] [.int (Int32.ofNat ev), .ref ao])) rfl (hb hby d3_219) rfl (vv.2) (cap := 3) (by rw [vv.1]; exact hev) (by decide) (by decide) (by decide) (ad := "[[J") (by decide)
 obtain ⟨bp, g427⟩ : ∃ z, z = h406.size := ⟨_, rfl⟩
 rw [← g427] at A427 B427 ls427
 have ne_ao_bp : ao ≠ bp := Nat.ne_of_lt (Nat.lt_of_lt_of_le f407.lt (Nat.le_of_eq g427.symm))
 have ne_ae_bp : ae ≠ bp := Nat.ne_of_lt (Nat.lt_of_lt_of_le f417.lt (Nat.le_of_eq g427.symm))
 have ne_bf_bp : bf ≠ bp := Nat.ne_of_lt (Nat.lt_of_lt_of_le f419.lt (Nat.le_of_eq g427.symm))
 have ne_bk_bp : bk ≠ bp := Nat.ne_of_lt (Nat.lt_of_lt_of_le f420.lt (Nat.le_of_eq g427.symm))
 have ne_bl_bp : bl ≠ bp := Nat.ne_of_lt (Nat.lt_of_lt_of_le f421.lt (Nat.le_of_eq g427.symm))
 have ne_bc_bp : bc ≠ bp := Nat.ne_of_lt (Nat.lt_of_lt_of_le f422.lt (Nat.le_of_eq g427.symm))
 have g_bp : n0 ≤ bp := Nat.le_trans z424 (Nat.le_of_eq g427.symm)
 have f428 := f407.ext E427
 have f429 := f408.ext E427
 have f430 := f409.ext E427
 have f431 := f410.ext E427
 have f432 := f411.ext E427
 have f433 := f412.ext E427
 have f434 := f413.ext E427
 have f435 := f414.ext E427
 have f436 := f415.ext E427
 have f437 := f416.ext E427
 have f438 := f417.ext E427
 have f439 := f418.ext E427
 have f440 := f419.ext E427
 have f441 := f420.ext E427
 have f442 := f421.ext E427
 have f443 := f422.ext E427
 have f444 := f423.ext E427
 have z445 := Nat.le_trans z424 E427.1
 have f446 : own_Ra Z h427 bp .long "[J" ev (fun _ => .null) := own_Ra.new A427 O427 (vv.2) (vv.1)
 have st447 := fun t kt => st426 t (ls427 t kt)
 obtain ⟨T448, h448, X448, e448, W448, ls448⟩ := putF X427 hx hZ hown (host := "") (Or.inl (own_w hw 32 rfl)) Via.refl e427 f433 f437 (Or.inr ⟨(own_w hw 33 rfl), rfl, hnm⟩) (own_w hw 11 rfl) (ty := (.array (.array .long))) (by decide) rfl rfl (g := (mkF m 222 #[rv ao, rv ae, iv (Int32.ofNat ev), iv 1, rv bf, iv (((0 : Int32) + (2 : Int32)) + (2 : Int32)), iv k2] [.ref bp, .ref ao])) rfl rfl (hb hby d3_222)
 have N448 := Fr.snoc X448 N406 g_ao
 have f449 := f428.other W448 (Or.inr (own_s20_33 hw))
 have f450 := f429.other W448 (Or.inr (own_s22_33 hw))
 have f451 := f430.other W448 (Or.inr (own_s24_33 hw))
 have f452 := f431.other W448 (Or.inr (own_s26_33 hw))
 have f453 := f432.other W448 (Or.inr (own_s29_33 hw))
 have f454 := f433.same W448
 have f455 := f434.other W448 (Or.inr (own_s35_33 hw))
 have f456 := f435.other W448 (Or.inr (own_s46_33 hw))
 have f457 := f436.other W448 (Or.inr (own_s66_33 hw))
 have f458 := f437.wr W448
 have f459 := f438.other W448 (Ne.symm ne_ao_ae)
 have f460 := f439.wr W448 g_ao
 have f461 := f440.wr W448
 have f462 := f441.other W448 (Ne.symm ne_ao_bk)
 have f463 := f442.other W448 (Ne.symm ne_ao_bl)
 have f464 := f443.other W448 (Ne.symm ne_ao_bc)
 have f465 := f444.other W448 (Ne.symm ne_ao_bf)
 have f466 := f446.other W448 (Ne.symm ne_ao_bp)
 have z467 := Nat.le_trans z445 (Keep.of_wr W448).1
 have st468 := fun t kt => st447 t (ls448 t kt)
 have st469 : own_K p e below T448 m 227 #[rv ao, rv ae, iv (Int32.ofNat ev), iv 1, rv bf, iv (((0 : Int32) + (2 : Int32)) + (2 : Int32)), iv k2] [.int (Int32.ofNat ev), .ref ao] B0 := fun t kt => st468 t (by
  refine XS.aloadN X448.here hx rfl (hb hby d3_225) rfl rfl ?_
  refine XS.iloadN X448.here hx rfl (hb hby d3_226) rfl ?_
  exact kt)
 obtain ⟨T470, h470, c470, X470, e470, E470, A470, ls470⟩ := newP X448 hx hZ (own_w hw 6 rfl) e448 (g := (mkF m 227 #[rv ao, rv ae, iv (Int32.ofNat ev), iv 1, rv bf, iv (((0 : Int32) + (2 : Int32)) + (2 : Int32)), iv k2] [.int (Int32.ofNat ev), .ref ao])) rfl (hb hby d3_227) rfl (vv.2) (cap := 3) (by rw [vv.1]; exact hev) (by decide) (by decide) (by decide)
 obtain ⟨bq, g470⟩ : ∃ z, z = h448.size := ⟨_, rfl⟩
 rw [← g470] at A470 ls470
 have ne_ao_bq : ao ≠ bq := Nat.ne_of_lt (Nat.lt_of_lt_of_le f449.lt (Nat.le_of_eq g470.symm))
 have ne_ae_bq : ae ≠ bq := Nat.ne_of_lt (Nat.lt_of_lt_of_le f459.lt (Nat.le_of_eq g470.symm))
 have ne_bf_bq : bf ≠ bq := Nat.ne_of_lt (Nat.lt_of_lt_of_le f461.lt (Nat.le_of_eq g470.symm))
 have ne_bk_bq : bk ≠ bq := Nat.ne_of_lt (Nat.lt_of_lt_of_le f462.lt (Nat.le_of_eq g470.symm))
 have ne_bl_bq : bl ≠ bq := Nat.ne_of_lt (Nat.lt_of_lt_of_le f463.lt (Nat.le_of_eq g470.symm))
 have ne_bc_bq : bc ≠ bq := Nat.ne_of_lt (Nat.lt_of_lt_of_le f464.lt (Nat.le_of_eq g470.symm))
 have ne_bp_bq : bp ≠ bq := Nat.ne_of_lt (Nat.lt_of_lt_of_le f466.lt (Nat.le_of_eq g470.symm))
 have g_bq : n0 ≤ bq := Nat.le_trans z467 (Nat.le_of_eq g470.symm)
 have f471 := f449.ext E470
 have f472 := f450.ext E470
 have f473 := f451.ext E470
 have f474 := f452.ext E470
 have f475 := f453.ext E470
 have f476 := f454.ext E470
 have f477 := f455.ext E470
 have f478 := f456.ext E470
 have f479 := f457.ext E470
 have f480 := f458.ext E470
 have f482 := f460.ext E470
 have f483 := f461.ext E470
 have f484 := f462.ext E470
 have f485 := f463.ext E470
 have f486 := f464.ext E470
 have f487 := f465.ext E470
 have f488 := f466.ext E470
 have z489 := Nat.le_trans z467 E470.1
 have f490 : own_Av Z h470 bq .int ev (fun _ => (.int 0)) := own_Av.new A470 (vv.2) (vv.1)
 have st491 := fun t kt => st469 t (ls470 t kt)
 obtain ⟨T492, h492, X492, e492, W492, ls492⟩ := putF X470 hx hZ hown (host := "") (Or.inl (own_w hw 34 rfl)) Via.refl e470 f477 f480 (Or.inr ⟨(own_w hw 35 rfl), rfl, hnm⟩) (own_w hw 11 rfl) (ty := (.array .int)) (by decide) rfl rfl (g := (mkF m 229 #[rv ao, rv ae, iv (Int32.ofNat ev), iv 1, rv bf, iv (((0 : Int32) + (2 : Int32)) + (2 : Int32)), iv k2] [.ref bq, .ref ao])) rfl rfl (hb hby d3_229)
 have N492 := Fr.snoc X492 N448 g_ao
 have f493 := f471.other W492 (Or.inr (own_s20_35 hw))
 have f494 := f472.other W492 (Or.inr (own_s22_35 hw))
 have f495 := f473.other W492 (Or.inr (own_s24_35 hw))
 have f496 := f474.other W492 (Or.inr (own_s26_35 hw))
 have f497 := f475.other W492 (Or.inr (own_s29_35 hw))
 have f498 := f476.other W492 (Or.inr (own_s33_35 hw))
 have f499 := f477.same W492
 have f500 := f478.other W492 (Or.inr (own_s46_35 hw))
 have f501 := f479.other W492 (Or.inr (own_s66_35 hw))
 have f502 := f480.wr W492
 have f504 := f482.wr W492 g_ao
 have f505 := f483.wr W492
 have f506 := f484.other W492 (Ne.symm ne_ao_bk)
 have f507 := f485.other W492 (Ne.symm ne_ao_bl)
 have f508 := f486.other W492 (Ne.symm ne_ao_bc)
 have f509 := f487.other W492 (Ne.symm ne_ao_bf)
 have f510 := f488.other W492 (Ne.symm ne_ao_bp)
 have f511 := f490.other W492 (Ne.symm ne_ao_bq)
 have z512 := Nat.le_trans z489 (Keep.of_wr W492).1
 have st513 := fun t kt => st491 t (ls492 t kt)
 have st514 : own_K p e below T492 m 235 #[rv ao, rv ae, iv (Int32.ofNat ev), iv 1, rv bf, iv (Int32.ofNat 0), iv k2] [] B0 := fun t kt => st513 t (by
  refine XS.iconst X492.here hx rfl (hb hby d3_232) ?_
  refine XS.istore X492.here hx rfl (hb hby d3_233) rfl (l' := #[rv ao, rv ae, iv (Int32.ofNat ev), iv 1, rv bf, iv 0, iv k2]) rfl ?_
  show own_At p e below T492 m 235 #[rv ao, rv ae, iv (Int32.ofNat ev), iv 1, rv bf, iv 0, iv k2] [] _
  rw [show (0 : Int32) = (Int32.ofNat 0) from (rfl)]
  exact kt)
 have f_bf := f509.congr (g := fun q => .long ((fun q => if q = 0 then x_f1 else 0) q)) (fun q hq => match q, hq with | 0, _ => rfl | _ + 1, z => absurd z (by omega))
 obtain ⟨T515, L515, h515, X515, e515, N515, Z515, ⟨Sm515, Pd515⟩, ls515⟩ := own_loopC ev 1 (fun q => if q = 0 then x_f1 else 0) ao ae bf bp bq (2 : Int32) (1 : Int32) (iv k2) 9 85 hx hZ hw hby hml hown hev (by decide) ne_ao_bp ne_ao_bq ne_bp_bq ne_bf_bp ne_bf_bq ne_ao_bf g_bp g_bq (by decide) (by decide) (by decide) (by decide) ev 0 (Nat.zero_add _) 6 73 _ _ _ X492 e492 N492 z512 ⟨f502, f498, f499, f497, f505, f_bf, by omega, by omega, ⟨fun _ => 0, f510.congr (fun q hq => (if_neg (Nat.not_lt_zero q)).symm), fun q hq => absurd hq (Nat.not_lt_zero q)⟩, fun _ => 0, f511⟩
 have np_ao : ¬ (ao = bp ∨ ao = bq) := fun z => z.elim ne_ao_bp ne_ao_bq
 have np_ae : ¬ (ae = bp ∨ ae = bq) := fun z => z.elim ne_ae_bp ne_ae_bq
 have np_bk : ¬ (bk = bp ∨ bk = bq) := fun z => z.elim ne_bk_bp ne_bk_bq
 have np_bl : ¬ (bl = bp ∨ bl = bq) := fun z => z.elim ne_bl_bp ne_bl_bq
 have np_bc : ¬ (bc = bp ∨ bc = bq) := fun z => z.elim ne_bc_bp ne_bc_bq
 have np_bf : ¬ (bf = bp ∨ bf = bq) := fun z => z.elim ne_bf_bp ne_bf_bq
 have f516 := own_FldSm f493 Sm515 (np_ao)
 have f517 := own_FldSm f494 Sm515 (np_ao)
 have f518 := own_FldSm f495 Sm515 (np_ao)
 have f519 := own_FldSm f496 Sm515 (np_ao)
 have f520 := own_FldSm f497 Sm515 (np_ao)
 have f521 := own_FldSm f498 Sm515 (np_ao)
 have f522 := own_FldSm f499 Sm515 (np_ao)
 have f523 := own_FldSm f500 Sm515 (np_ao)
 have f524 := own_FldSm f501 Sm515 (np_ao)
 have f525 := own_ExaSm f502 Sm515 (np_ao)
 have f527 := f504.trans (own_Sm.mono Sm515 (fun x hx => hx.elim (fun e => e ▸ g_bp) fun e => e ▸ g_bq))
 have f529 := f506.sm Sm515 (np_bk)
 have f530 := f507.sm Sm515 (np_bl)
 have f531 := f508.sm Sm515 (np_bc)
 have st533 := fun t kt => st514 t (ls515 t kt)
 obtain ⟨fs, hr, hrun, hended, hW, hsame⟩ := X515.leave (v := none) (fun _ => rfl)
 subst hB0
 refine ⟨_, _, st533 _ ?_, hrun, hended, _, _, rfl, ?_, ⟨_, rfl⟩, hW, hsame.mono (by decide) (by decide)⟩
 ·exact X515.returnOut hx Bd.returns (hb hby d3_273) hr
 ·show Q_rm_in2s Z ao ae ev fe v1 c1 v2 c2 h0 n0 _ T515.heap _
  rw [e515]
  exact ⟨rfl, N515, Z515, f527, f525, f523, f520, f516, ⟨_, f524⟩, bk, bl, bc, bp, bq, by
   intro x hx
   simp only [List.mem_cons, List.not_mem_nil, or_false] at hx
   rcases hx with rfl | rfl | rfl | rfl | rfl | rfl
   ·exact g_ao
   ·exact g_bk
   ·exact g_bl
   ·exact g_bc
   ·exact g_bp
   ·exact g_bq, by simp [ne_ao_bk, ne_ao_bl, ne_ao_bc, ne_ao_bp, ne_ao_bq, ne_bk_bl, ne_bk_bc, ne_bk_bp, ne_bk_bq, ne_bl_bc, ne_bl_bp, ne_bl_bq, ne_bc_bp, ne_bc_bq, ne_bp_bq], f517, f518, f519, f521, f522, f529.congr (fun q hq => match q, hq with | 0, _ => congrArg Value.int h_k1 | _ + 1, z => absurd z (by omega)), f530.congr (fun q hq => match q, hq with | 0, _ => rfl | _ + 1, z => absurd z (by omega)), f531.congr (fun q hq => by first | rfl | (simp only [Nat.mul_zero, Nat.zero_add, Nat.mul_one]; (repeat' split) <;> rfl)), Pd515⟩
def Q_rm_in2d (Z : State) (ao : Addr) (ae : Addr) (ev : Nat) (fe : Nat → Value) (v1 : Int32) (c1 : Int32) (v2 : Int32) (c2 : Int32) (h0 : Heap) (n0 : Nat) (v : Option Value) (h : Heap) (L : List Loc) : Prop := v = none ∧ Fr n0 L ∧ n0 ≤ h.size ∧ own_Sm (fun x => n0 ≤ x) h0 h ∧ own_N Z h n0 ao 2 2 (fun q => if q = 1 then own_key v2 else if q = 0 then own_key v1 else 0) (fun q => if q = 1 then 1 else 0) (fun x => if x = 64 + own_pl v2 then c2 else if x = own_pl v1 then c1 else 0) 2 (-1) ev
set_option maxRecDepth 65536 in
set_option maxHeartbeats 40000000 in
theorem rm_in2d (l : Launch) (Z : State) (a0 : Array Value) (hw : ∀ d ∈ tables_1, d.before a0 Z = true) (ws : List Jvm.Cond) (ao : Addr) (ae : Addr) (ev : Nat) (fe : Nat → Value) (v1 : Int32) (c1 : Int32) (v2 : Int32) (c2 : Int32) (h0 : Heap) (n0 : Nat) (Z0 : n0 ≤ h0.size) (F_lastKey_ao : Fld Z h0 ao "com/example/saturation/saturation/OpenNode" "lastKey" "I" (.int 0)) (F_keys_ao : Fld Z h0 ao "com/example/saturation/saturation/OpenNode" "keys" "[I" .null) (F_slots_ao : Fld Z h0 ao "com/example/saturation/saturation/OpenNode" "slots" "[I" .null) (F_children_ao : Fld Z h0 ao "com/example/saturation/saturation/OpenNode" "children" "[I" .null) (F_count_ao : Fld Z h0 ao "com/example/saturation/saturation/OpenNode" "count" "I" (.int 0)) (F_pending_ao : Fld Z h0 ao "com/example/saturation/saturation/OpenNode" "pending" "[[J" .null) (F_pendingCount_ao : Fld Z h0 ao "com/example/saturation/saturation/OpenNode" "pendingCount" "[I" .null) (F_blocks_ao : Fld Z h0 ao "com/example/saturation/saturation/OpenNode" "blocks" "I" (.int 0)) (F_lastPosition_ao : Fld Z h0 ao "com/example/saturation/saturation/OpenNode" "lastPosition" "I" (.int 0)) (E_ao : Exa Z h0 ao "com/example/saturation/saturation/OpenNode") (g_ao : n0 ≤ ao) (Ae : own_Av Z h0 ae .int 4 fe) (ne_ao_ae : ao ≠ ae) (hev : ev ≤ 3) (hv0 : fe 0 = .int v1) (hc0 : fe 1 = .int c1) (hv1 : fe 2 = .int v2) (hc1 : fe 3 = .int c2) (hkk : ¬ own_key v2 = own_key v1) :
  MetFree l (⟨"com/example/saturation/saturation/OpenNode", "<init>", "([II)V"⟩ : MethodName) (head1 (Jvm.Cond.code (⟨"com/example/saturation/saturation/OpenNode", "<init>", "([II)V"⟩ : MethodName) prog_38_method_1_code 7 none :: ws) ({ frames := 1, cells := 9, slots := 152, locals := 30 } : Room)) (fun a U => a = #[.ref ao, .ref ae, .int (Int32.ofNat ev)] ∧ Z.Warmed39 U.vm ∧ U.heap = h0) (fun _ _ _ _ _ => True) (fun _ U o U' => ∃ v L, o = .returned v ∧ Q_rm_in2d Z ao ae ev fe v1 c1 v2 c2 h0 n0 v U'.heap L ∧ FrameEnd U o U' L ({ frames := 1, cells := 9, slots := 152, locals := 30 } : Room).cells ({ frames := 1, cells := 9, slots := 152, locals := 30 } : Room).slots) := by
 refine MetFree.of_bodySF (plainFor_of_name own_pn1) hisR ?_
 intro p e s m args below meth c s₁ Bd hml0 hP hK
 obtain ⟨rfl, hZ, hh⟩ := hP
 have hx := Bd.exec
 have hby := Bd.bytes
 have hml : c.maxLocals = 7 := hml0
 have hown : s.vm.findClass "com/example/saturation/saturation/OpenNode" = some m.cls := findClass_of_methodNamed Bd.named
 have hnm := (name_of_methodNamed Bd.named Bd.method).1
 have X0 : Stand p l e ({ frames := 1, cells := 9, slots := 152, locals := 30 } : Room) s m #[.ref ao, .ref ae, .int (Int32.ofNat ev)] below meth c s₁ [] 0 0 := Stand.of_body Bd
 have e0 : s₁.heap = h0 := by rw [← hh, Bd.state]; rfl
 have N0 := Fr.nil n0
 obtain ⟨B0, hB0⟩ : ∃ B, B = (s₁.setTop (entryFrame m #[.ref ao, .ref ae, .int (Int32.ofNat ev)] 7)) := ⟨_, rfl⟩
 have st0 : own_K p e below s₁ m 0 #[rv ao, rv ae, iv (Int32.ofNat ev), .unset, .unset, .unset, .unset] [] B0 := fun t kk0 => hB0 ▸ castTop (own_ef3_RRI m ao ae (Int32.ofNat ev)) kk0
 have S0 : own_Sm (fun x => n0 ≤ x) h0 h0 := own_Sm.refl
 have st1 : own_K p e below s₁ m 1 #[rv ao, rv ae, iv (Int32.ofNat ev), .unset, .unset, .unset, .unset] [.ref ao] B0 := fun t kt => st0 t (by
  refine XS.aloadN X0.here hx rfl (hb hby d3_0) rfl rfl ?_
  exact kt)
 obtain ⟨T2, X2, e2, ls2⟩ := initO X0 hx hZ hown (own_w hw 16 rfl) (own_w hw 17 rfl) (own_w hw 18 rfl) e0 (g := (mkF m 1 #[rv ao, rv ae, iv (Int32.ofNat ev), .unset, .unset, .unset, .unset] [.ref ao])) rfl (by rw [hml]; rfl) rfl (hb hby d3_1) (by decide) (W := 0) (by show 2 * 0 + _ ≤ _; exact Nat.le_of_eq rfl) (by decide)
 have st3 := fun t kt => st1 t (ls2 t kt)
 have st4 : own_K p e below T2 m 6 #[rv ao, rv ae, iv (Int32.ofNat ev), .unset, .unset, .unset, .unset] [.int (-1 : Int32), .ref ao] B0 := fun t kt => st3 t (by
  refine XS.aloadN X2.here hx rfl (hb hby d3_4) rfl rfl ?_
  refine XS.iconst X2.here hx rfl (hb hby d3_5) ?_
  exact kt)
 obtain ⟨T5, h5, X5, e5, W5, ls5⟩ := putF X2 hx hZ hown (host := "") (Or.inl (own_w hw 19 rfl)) Via.refl e2 F_lastKey_ao E_ao (Or.inl (own_w hw 20 rfl)) (own_w hw 11 rfl) (ty := .int) (by decide) rfl rfl (g := (mkF m 6 #[rv ao, rv ae, iv (Int32.ofNat ev), .unset, .unset, .unset, .unset] [.int (-1 : Int32), .ref ao])) rfl rfl (hb hby d3_6)
 have N5 := Fr.snoc X5 N0 g_ao
 have f6 := F_lastKey_ao.same W5
 have f7 := F_keys_ao.other W5 (Or.inr (own_s22_20 hw))
 have f8 := F_slots_ao.other W5 (Or.inr (own_s24_20 hw))
 have f9 := F_children_ao.other W5 (Or.inr (own_s26_20 hw))
 have f10 := F_count_ao.other W5 (Or.inr (own_s29_20 hw))
 have f11 := F_pending_ao.other W5 (Or.inr (own_s33_20 hw))
 have f12 := F_pendingCount_ao.other W5 (Or.inr (own_s35_20 hw))
 have f13 := F_blocks_ao.other W5 (Or.inr (own_s46_20 hw))
 have f14 := F_lastPosition_ao.other W5 (Or.inr (own_s66_20 hw))
 have f15 := E_ao.wr W5
 have f16 := Ae.other W5 (Ne.symm ne_ao_ae)
 have f17 := S0.wr W5 g_ao
 have z18 := Nat.le_trans Z0 (Keep.of_wr W5).1
 have st19 := fun t kt => st4 t (ls5 t kt)
 have st20 : own_K p e below T5 m 17 #[rv ao, rv ae, iv (Int32.ofNat ev), iv 1, iv 2, .unset, .unset] [.ref ae, .int 2] B0 := fun t kt => st19 t (by
  refine XS.iconst X5.here hx rfl (hb hby d3_9) ?_
  refine XS.istoreN X5.here hx rfl (hb hby d3_10) rfl (l' := #[rv ao, rv ae, iv (Int32.ofNat ev), iv 1, .unset, .unset, .unset]) rfl ?_
  refine XS.iconst X5.here hx rfl (hb hby d3_11) ?_
  refine XS.istore X5.here hx rfl (hb hby d3_12) rfl (l' := #[rv ao, rv ae, iv (Int32.ofNat ev), iv 1, iv 2, .unset, .unset]) rfl ?_
  refine XS.iload X5.here hx rfl (hb hby d3_14) rfl ?_
  refine XS.aloadN X5.here hx rfl (hb hby d3_16) rfl rfl ?_
  exact kt)
 have ls21 := own_alen X5 hx hZ e5 f16 (g := (mkF m 17 #[rv ao, rv ae, iv (Int32.ofNat ev), iv 1, iv 2, .unset, .unset] [.ref ae, .int 2])) rfl rfl (hb hby d3_17)
 have st22 := fun t kt => st20 t (ls21 t kt)
 have hc23 : (2 : Int32) < (4 : Int32) := by decide
 have st24 : own_K p e below T5 m 24 #[rv ao, rv ae, iv (Int32.ofNat ev), iv 1, iv 2, .unset, .unset] [.int 2, .ref ae] B0 := fun t kt => st22 t (by
  refine XS.icmpNo X5.here hx rfl (hb hby d3_18) rfl (tlt hc23).2.1 ?_
  refine XS.aloadN X5.here hx rfl (hb hby d3_21) rfl rfl ?_
  refine XS.iload X5.here hx rfl (hb hby d3_22) rfl ?_
  exact kt)
 have ls25 := own_iaload X5 hx hZ e5 f16 (j := (2 : Int32)) (i := 2) (by decide) (by decide) (by decide) (v := (.int v2)) (hv1) (g := (mkF m 24 #[rv ao, rv ae, iv (Int32.ofNat ev), iv 1, iv 2, .unset, .unset] [.int 2, .ref ae])) rfl rfl (hb hby d3_24)
 have st26 := fun t kt => st24 t (ls25 t kt)
 have st27 : own_K p e below T5 m 33 #[rv ao, rv ae, iv (Int32.ofNat ev), iv 1, iv 2, .unset, .unset] [(.int ((2 : Int32) - (2 : Int32))), .ref ae, (.int ((v2.toUInt32 >>> ((6 : Int32) &&& 31).toUInt32).toInt32))] B0 := fun t kt => st26 t (by
  refine XS.bipush X5.here hx rfl (hb hby d3_25) ?_
  refine XS.iushr X5.here hx rfl (hb hby d3_27) rfl ?_
  refine XS.aloadN X5.here hx rfl (hb hby d3_28) rfl rfl ?_
  refine XS.iload X5.here hx rfl (hb hby d3_29) rfl ?_
  refine XS.iconst X5.here hx rfl (hb hby d3_31) ?_
  refine XS.isub X5.here hx rfl (hb hby d3_32) rfl ?_
  exact kt)
 have ls28 := own_iaload X5 hx hZ e5 f16 (j := ((2 : Int32) - (2 : Int32))) (i := 0) (by decide) (by decide) (by decide) (v := (.int v1)) (hv0) (g := (mkF m 33 #[rv ao, rv ae, iv (Int32.ofNat ev), iv 1, iv 2, .unset, .unset] [(.int ((2 : Int32) - (2 : Int32))), .ref ae, (.int ((v2.toUInt32 >>> ((6 : Int32) &&& 31).toUInt32).toInt32))])) rfl rfl (hb hby d3_33)
 have st29 := fun t kt => st27 t (ls28 t kt)
 have hc30 : ¬ (((v2.toUInt32 >>> ((6 : Int32) &&& 31).toUInt32).toInt32) = ((v1.toUInt32 >>> ((6 : Int32) &&& 31).toUInt32).toInt32)) := hkk
 have st31 : own_K p e below T5 m 17 #[rv ao, rv ae, iv (Int32.ofNat ev), iv ((1 : Int32) + (1 : Int32)), iv ((2 : Int32) + (2 : Int32)), .unset, .unset] [.ref ae, (.int ((2 : Int32) + (2 : Int32)))] B0 := fun t kt => st29 t (by
  refine XS.bipush X5.here hx rfl (hb hby d3_34) ?_
  refine XS.iushr X5.here hx rfl (hb hby d3_36) rfl ?_
  refine XS.icmpNo X5.here hx rfl (hb hby d3_37) rfl (feq hc30).1 ?_
  refine XS.iinc X5.here hx rfl (hb hby d3_40) rfl (l' := #[rv ao, rv ae, iv (Int32.ofNat ev), iv ((1 : Int32) + (1 : Int32)), iv 2, .unset, .unset]) rfl ?_
  refine XS.iinc X5.here hx rfl (hb hby d3_43) rfl (l' := #[rv ao, rv ae, iv (Int32.ofNat ev), iv ((1 : Int32) + (1 : Int32)), iv ((2 : Int32) + (2 : Int32)), .unset, .unset]) rfl ?_
  refine XS.goto X5.here hx rfl (pc0 := 46) (pc' := 14) rfl (hb hby d3_46) (by decide) (by decide) ?_
  refine XS.iload X5.here hx rfl (hb hby d3_14) rfl ?_
  refine XS.aloadN X5.here hx rfl (hb hby d3_16) rfl rfl ?_
  exact kt)
 have ls32 := own_alen X5 hx hZ e5 f16 (g := (mkF m 17 #[rv ao, rv ae, iv (Int32.ofNat ev), iv ((1 : Int32) + (1 : Int32)), iv ((2 : Int32) + (2 : Int32)), .unset, .unset] [.ref ae, (.int ((2 : Int32) + (2 : Int32)))])) rfl rfl (hb hby d3_17)
 have st33 := fun t kt => st31 t (ls32 t kt)
 have hc34 : ¬ (((2 : Int32) + (2 : Int32)) < (4 : Int32)) := by decide
 have st35 : own_K p e below T5 m 51 #[rv ao, rv ae, iv (Int32.ofNat ev), iv 2, iv ((2 : Int32) + (2 : Int32)), .unset, .unset] [.int 2, .ref ao] B0 := fun t kt => st33 t (by
  refine XS.icmpYes X5.here hx rfl (pc0 := 18) (pc' := 49) rfl (hb hby d3_18) rfl (flt hc34).2.1 (by decide) (by decide) ?_
  refine XS.aloadN X5.here hx rfl (hb hby d3_49) rfl rfl ?_
  refine XS.iloadN X5.here hx rfl (hb hby d3_50) rfl ?_
  show own_At p e below T5 m 51 #[rv ao, rv ae, iv (Int32.ofNat ev), iv ((1 : Int32) + (1 : Int32)), iv ((2 : Int32) + (2 : Int32)), .unset, .unset] [(.int ((1 : Int32) + (1 : Int32))), .ref ao] _
  rw [show ((1 : Int32) + (1 : Int32)) = (2 : Int32) from (by decide +kernel)]
  exact kt)
 obtain ⟨T36, h36, c36, X36, e36, E36, A36, ls36⟩ := newP X5 hx hZ (own_w hw 6 rfl) e5 (g := (mkF m 51 #[rv ao, rv ae, iv (Int32.ofNat ev), iv 2, iv ((2 : Int32) + (2 : Int32)), .unset, .unset] [.int 2, .ref ao])) rfl (hb hby d3_51) rfl (by decide) (cap := 2) (by decide) (by decide) (by decide) (by decide)
 obtain ⟨bk, g36⟩ : ∃ z, z = h5.size := ⟨_, rfl⟩
 rw [← g36] at A36 ls36
 have ne_ao_bk : ao ≠ bk := Nat.ne_of_lt (Nat.lt_of_lt_of_le f6.lt (Nat.le_of_eq g36.symm))
 have ne_ae_bk : ae ≠ bk := Nat.ne_of_lt (Nat.lt_of_lt_of_le f16.lt (Nat.le_of_eq g36.symm))
 have g_bk : n0 ≤ bk := Nat.le_trans z18 (Nat.le_of_eq g36.symm)
 have f37 := f6.ext E36
 have f38 := f7.ext E36
 have f39 := f8.ext E36
 have f40 := f9.ext E36
 have f41 := f10.ext E36
 have f42 := f11.ext E36
 have f43 := f12.ext E36
 have f44 := f13.ext E36
 have f45 := f14.ext E36
 have f46 := f15.ext E36
 have f47 := f16.ext E36
 have f48 := f17.ext E36
 have z49 := Nat.le_trans z18 E36.1
 have f50 : own_Av Z h36 bk .int 2 (fun _ => (.int 0)) := own_Av.new A36 (by decide) (by decide)
 have st51 := fun t kt => st35 t (ls36 t kt)
 obtain ⟨T52, h52, X52, e52, W52, ls52⟩ := putF X36 hx hZ hown (host := "") (Or.inl (own_w hw 21 rfl)) Via.refl e36 f38 f46 (Or.inl (own_w hw 22 rfl)) (own_w hw 11 rfl) (ty := (.array .int)) (by decide) rfl rfl (g := (mkF m 53 #[rv ao, rv ae, iv (Int32.ofNat ev), iv 2, iv ((2 : Int32) + (2 : Int32)), .unset, .unset] [.ref bk, .ref ao])) rfl rfl (hb hby d3_53)
 have N52 := Fr.snoc X52 N5 g_ao
 have f53 := f37.other W52 (Or.inr (own_s20_22 hw))
 have f54 := f38.same W52
 have f55 := f39.other W52 (Or.inr (own_s24_22 hw))
 have f56 := f40.other W52 (Or.inr (own_s26_22 hw))
 have f57 := f41.other W52 (Or.inr (own_s29_22 hw))
 have f58 := f42.other W52 (Or.inr (own_s33_22 hw))
 have f59 := f43.other W52 (Or.inr (own_s35_22 hw))
 have f60 := f44.other W52 (Or.inr (own_s46_22 hw))
 have f61 := f45.other W52 (Or.inr (own_s66_22 hw))
 have f62 := f46.wr W52
 have f63 := f47.other W52 (Ne.symm ne_ao_ae)
 have f64 := f48.wr W52 g_ao
 have f65 := f50.other W52 (Ne.symm ne_ao_bk)
 have z66 := Nat.le_trans z49 (Keep.of_wr W52).1
 have st67 := fun t kt => st51 t (ls52 t kt)
 have st68 : own_K p e below T52 m 58 #[rv ao, rv ae, iv (Int32.ofNat ev), iv 2, iv ((2 : Int32) + (2 : Int32)), .unset, .unset] [.int 2, .ref ao] B0 := fun t kt => st67 t (by
  refine XS.aloadN X52.here hx rfl (hb hby d3_56) rfl rfl ?_
  refine XS.iloadN X52.here hx rfl (hb hby d3_57) rfl ?_
  exact kt)
 obtain ⟨T69, h69, c69, X69, e69, E69, A69, ls69⟩ := newP X52 hx hZ (own_w hw 6 rfl) e52 (g := (mkF m 58 #[rv ao, rv ae, iv (Int32.ofNat ev), iv 2, iv ((2 : Int32) + (2 : Int32)), .unset, .unset] [.int 2, .ref ao])) rfl (hb hby d3_58) rfl (by decide) (cap := 2) (by decide) (by decide) (by decide) (by decide)
 obtain ⟨bl, g69⟩ : ∃ z, z = h52.size := ⟨_, rfl⟩
 rw [← g69] at A69 ls69
 have ne_ao_bl : ao ≠ bl := Nat.ne_of_lt (Nat.lt_of_lt_of_le f53.lt (Nat.le_of_eq g69.symm))
 have ne_ae_bl : ae ≠ bl := Nat.ne_of_lt (Nat.lt_of_lt_of_le f63.lt (Nat.le_of_eq g69.symm))
 have ne_bk_bl : bk ≠ bl := Nat.ne_of_lt (Nat.lt_of_lt_of_le f65.lt (Nat.le_of_eq g69.symm))
 have g_bl : n0 ≤ bl := Nat.le_trans z66 (Nat.le_of_eq g69.symm)
 have f70 := f53.ext E69
 have f71 := f54.ext E69
 have f72 := f55.ext E69
 have f73 := f56.ext E69
 have f74 := f57.ext E69
 have f75 := f58.ext E69
 have f76 := f59.ext E69
 have f77 := f60.ext E69
 have f78 := f61.ext E69
 have f79 := f62.ext E69
 have f80 := f63.ext E69
 have f81 := f64.ext E69
 have f82 := f65.ext E69
 have z83 := Nat.le_trans z66 E69.1
 have f84 : own_Av Z h69 bl .int 2 (fun _ => (.int 0)) := own_Av.new A69 (by decide) (by decide)
 have st85 := fun t kt => st68 t (ls69 t kt)
 obtain ⟨T86, h86, X86, e86, W86, ls86⟩ := putF X69 hx hZ hown (host := "") (Or.inl (own_w hw 23 rfl)) Via.refl e69 f72 f79 (Or.inl (own_w hw 24 rfl)) (own_w hw 11 rfl) (ty := (.array .int)) (by decide) rfl rfl (g := (mkF m 60 #[rv ao, rv ae, iv (Int32.ofNat ev), iv 2, iv ((2 : Int32) + (2 : Int32)), .unset, .unset] [.ref bl, .ref ao])) rfl rfl (hb hby d3_60)
 have N86 := Fr.snoc X86 N52 g_ao
 have f87 := f70.other W86 (Or.inr (own_s20_24 hw))
 have f88 := f71.other W86 (Or.inr (own_s22_24 hw))
 have f89 := f72.same W86
 have f90 := f73.other W86 (Or.inr (own_s26_24 hw))
 have f91 := f74.other W86 (Or.inr (own_s29_24 hw))
 have f92 := f75.other W86 (Or.inr (own_s33_24 hw))
 have f93 := f76.other W86 (Or.inr (own_s35_24 hw))
 have f94 := f77.other W86 (Or.inr (own_s46_24 hw))
 have f95 := f78.other W86 (Or.inr (own_s66_24 hw))
 have f96 := f79.wr W86
 have f97 := f80.other W86 (Ne.symm ne_ao_ae)
 have f98 := f81.wr W86 g_ao
 have f99 := f82.other W86 (Ne.symm ne_ao_bk)
 have f100 := f84.other W86 (Ne.symm ne_ao_bl)
 have z101 := Nat.le_trans z83 (Keep.of_wr W86).1
 have st102 := fun t kt => st85 t (ls86 t kt)
 have st103 : own_K p e below T86 m 68 #[rv ao, rv ae, iv (Int32.ofNat ev), iv 2, iv ((2 : Int32) + (2 : Int32)), .unset, .unset] [.int 128, .ref ao] B0 := fun t kt => st102 t (by
  refine XS.aloadN X86.here hx rfl (hb hby d3_63) rfl rfl ?_
  refine XS.iloadN X86.here hx rfl (hb hby d3_64) rfl ?_
  refine XS.bipush X86.here hx rfl (hb hby d3_65) ?_
  refine XS.ishl X86.here hx rfl (hb hby d3_67) rfl ?_
  show own_At p e below T86 m 68 #[rv ao, rv ae, iv (Int32.ofNat ev), iv 2, iv ((2 : Int32) + (2 : Int32)), .unset, .unset] [(.int ((2 : Int32) <<< ((6 : Int32) &&& 31))), .ref ao] _
  rw [show ((2 : Int32) <<< ((6 : Int32) &&& 31)) = (128 : Int32) from (by decide +kernel)]
  exact kt)
 obtain ⟨T104, h104, c104, X104, e104, E104, A104, ls104⟩ := newP X86 hx hZ (own_w hw 6 rfl) e86 (g := (mkF m 68 #[rv ao, rv ae, iv (Int32.ofNat ev), iv 2, iv ((2 : Int32) + (2 : Int32)), .unset, .unset] [.int 128, .ref ao])) rfl (hb hby d3_68) rfl (by decide) (cap := 128) (by decide) (by decide) (by decide) (by decide)
 obtain ⟨bc, g104⟩ : ∃ z, z = h86.size := ⟨_, rfl⟩
 rw [← g104] at A104 ls104
 have ne_ao_bc : ao ≠ bc := Nat.ne_of_lt (Nat.lt_of_lt_of_le f87.lt (Nat.le_of_eq g104.symm))
 have ne_ae_bc : ae ≠ bc := Nat.ne_of_lt (Nat.lt_of_lt_of_le f97.lt (Nat.le_of_eq g104.symm))
 have ne_bk_bc : bk ≠ bc := Nat.ne_of_lt (Nat.lt_of_lt_of_le f99.lt (Nat.le_of_eq g104.symm))
 have ne_bl_bc : bl ≠ bc := Nat.ne_of_lt (Nat.lt_of_lt_of_le f100.lt (Nat.le_of_eq g104.symm))
 have g_bc : n0 ≤ bc := Nat.le_trans z101 (Nat.le_of_eq g104.symm)
 have f105 := f87.ext E104
 have f106 := f88.ext E104
 have f107 := f89.ext E104
 have f108 := f90.ext E104
 have f109 := f91.ext E104
 have f110 := f92.ext E104
 have f111 := f93.ext E104
 have f112 := f94.ext E104
 have f113 := f95.ext E104
 have f114 := f96.ext E104
 have f115 := f97.ext E104
 have f116 := f98.ext E104
 have f117 := f99.ext E104
 have f118 := f100.ext E104
 have z119 := Nat.le_trans z101 E104.1
 have f120 : own_Av Z h104 bc .int 128 (fun _ => (.int 0)) := own_Av.new A104 (by decide) (by decide)
 have st121 := fun t kt => st103 t (ls104 t kt)
 obtain ⟨T122, h122, X122, e122, W122, ls122⟩ := putF X104 hx hZ hown (host := "") (Or.inl (own_w hw 25 rfl)) Via.refl e104 f108 f114 (Or.inl (own_w hw 26 rfl)) (own_w hw 11 rfl) (ty := (.array .int)) (by decide) rfl rfl (g := (mkF m 70 #[rv ao, rv ae, iv (Int32.ofNat ev), iv 2, iv ((2 : Int32) + (2 : Int32)), .unset, .unset] [.ref bc, .ref ao])) rfl rfl (hb hby d3_70)
 have N122 := Fr.snoc X122 N86 g_ao
 have f123 := f105.other W122 (Or.inr (own_s20_26 hw))
 have f124 := f106.other W122 (Or.inr (own_s22_26 hw))
 have f125 := f107.other W122 (Or.inr (own_s24_26 hw))
 have f126 := f108.same W122
 have f127 := f109.other W122 (Or.inr (own_s29_26 hw))
 have f128 := f110.other W122 (Or.inr (own_s33_26 hw))
 have f129 := f111.other W122 (Or.inr (own_s35_26 hw))
 have f130 := f112.other W122 (Or.inr (own_s46_26 hw))
 have f131 := f113.other W122 (Or.inr (own_s66_26 hw))
 have f132 := f114.wr W122
 have f133 := f115.other W122 (Ne.symm ne_ao_ae)
 have f134 := f116.wr W122 g_ao
 have f135 := f117.other W122 (Ne.symm ne_ao_bk)
 have f136 := f118.other W122 (Ne.symm ne_ao_bl)
 have f137 := f120.other W122 (Ne.symm ne_ao_bc)
 have z138 := Nat.le_trans z119 (Keep.of_wr W122).1
 have st139 := fun t kt => st121 t (ls122 t kt)
 have st140 : own_K p e below T122 m 74 #[rv ao, rv ae, iv (Int32.ofNat ev), iv 2, iv ((2 : Int32) + (2 : Int32)), .unset, .unset] [.int 2] B0 := fun t kt => st139 t (by
  refine XS.iloadN X122.here hx rfl (hb hby d3_73) rfl ?_
  exact kt)
 obtain ⟨T141, h141, c141, X141, e141, E141, A141, B141, ls141⟩ := newPE X122 hx hZ (own_w hw 27 rfl) e122 (g := (mkF m 74 #[rv ao, rv ae, iv (Int32.ofNat ev), iv 2, iv ((2 : Int32) + (2 : Int32)), .unset, .unset] [.int 2])) rfl (hb hby d3_74) rfl (by decide) (cap := 2) (by decide) (by decide) (by decide) (by decide) (ad := "[J") (by decide)
 obtain ⟨bf, g141⟩ : ∃ z, z = h122.size := ⟨_, rfl⟩
 rw [← g141] at A141 B141 ls141
 have ne_ao_bf : ao ≠ bf := Nat.ne_of_lt (Nat.lt_of_lt_of_le f123.lt (Nat.le_of_eq g141.symm))
 have ne_ae_bf : ae ≠ bf := Nat.ne_of_lt (Nat.lt_of_lt_of_le f133.lt (Nat.le_of_eq g141.symm))
 have ne_bk_bf : bk ≠ bf := Nat.ne_of_lt (Nat.lt_of_lt_of_le f135.lt (Nat.le_of_eq g141.symm))
 have ne_bl_bf : bl ≠ bf := Nat.ne_of_lt (Nat.lt_of_lt_of_le f136.lt (Nat.le_of_eq g141.symm))
 have ne_bc_bf : bc ≠ bf := Nat.ne_of_lt (Nat.lt_of_lt_of_le f137.lt (Nat.le_of_eq g141.symm))
 have g_bf : n0 ≤ bf := Nat.le_trans z138 (Nat.le_of_eq g141.symm)
 have f142 := f123.ext E141
 have f143 := f124.ext E141
 have f144 := f125.ext E141
 have f145 := f126.ext E141
 have f146 := f127.ext E141
 have f147 := f128.ext E141
 have f148 := f129.ext E141
 have f149 := f130.ext E141
 have f150 := f131.ext E141
 have f151 := f132.ext E141
 have f152 := f133.ext E141
 have f153 := f134.ext E141
 have f154 := f135.ext E141
 have f155 := f136.ext E141
 have f156 := f137.ext E141
 have z157 := Nat.le_trans z138 E141.1
 have f158 : own_Av Z h141 bf .long 2 (fun _ => (.long (0 : Int64))) := own_Av.new A141 (by decide) (by decide)
 have st159 := fun t kt => st140 t (ls141 t kt)
 have st160 : own_K p e below T141 m 84 #[rv ao, rv ae, iv (Int32.ofNat ev), iv 2, rv bf, iv 0, .unset] [.ref ae, .int 0] B0 := fun t kt => st159 t (by
  refine XS.astore X141.here hx rfl (hb hby d3_76) rfl rfl (l' := #[rv ao, rv ae, iv (Int32.ofNat ev), iv 2, rv bf, .unset, .unset]) rfl ?_
  refine XS.iconst X141.here hx rfl (hb hby d3_78) ?_
  refine XS.istore X141.here hx rfl (hb hby d3_79) rfl (l' := #[rv ao, rv ae, iv (Int32.ofNat ev), iv 2, rv bf, iv 0, .unset]) rfl ?_
  refine XS.iload X141.here hx rfl (hb hby d3_81) rfl ?_
  refine XS.aloadN X141.here hx rfl (hb hby d3_83) rfl rfl ?_
  exact kt)
 have ls161 := own_alen X141 hx hZ e141 f152 (g := (mkF m 84 #[rv ao, rv ae, iv (Int32.ofNat ev), iv 2, rv bf, iv 0, .unset] [.ref ae, .int 0])) rfl rfl (hb hby d3_84)
 have st162 := fun t kt => st160 t (ls161 t kt)
 have hc163 : (0 : Int32) < (4 : Int32) := by decide
 have st164 : own_K p e below T141 m 91 #[rv ao, rv ae, iv (Int32.ofNat ev), iv 2, rv bf, iv 0, .unset] [.int 0, .ref ae] B0 := fun t kt => st162 t (by
  refine XS.icmpNo X141.here hx rfl (hb hby d3_85) rfl (tlt hc163).2.1 ?_
  refine XS.aloadN X141.here hx rfl (hb hby d3_88) rfl rfl ?_
  refine XS.iload X141.here hx rfl (hb hby d3_89) rfl ?_
  exact kt)
 have ls165 := own_iaload X141 hx hZ e141 f152 (j := (0 : Int32)) (i := 0) (by decide) (by decide) (by decide) (v := (.int v1)) (hv0) (g := (mkF m 91 #[rv ao, rv ae, iv (Int32.ofNat ev), iv 2, rv bf, iv 0, .unset] [.int 0, .ref ae])) rfl rfl (hb hby d3_91)
 have st166 := fun t kt => st164 t (ls165 t kt)
 obtain ⟨k1, h_k1⟩ : ∃ z : Int32, z = ((v1.toUInt32 >>> ((6 : Int32) &&& 31).toUInt32).toInt32) := ⟨_, rfl⟩
 have st167 : own_K p e below T141 m 98 #[rv ao, rv ae, iv (Int32.ofNat ev), iv 2, rv bf, iv 0, iv k1] [.ref ao] B0 := fun t kt => st166 t (by
  refine XS.bipush X141.here hx rfl (hb hby d3_92) ?_
  refine XS.iushr X141.here hx rfl (hb hby d3_94) rfl ?_
  show own_At p e below T141 m 95 #[rv ao, rv ae, iv (Int32.ofNat ev), iv 2, rv bf, iv 0, .unset] [(.int ((v1.toUInt32 >>> ((6 : Int32) &&& 31).toUInt32).toInt32))] _
  rw [← h_k1]
  refine XS.istore X141.here hx rfl (hb hby d3_95) rfl (l' := #[rv ao, rv ae, iv (Int32.ofNat ev), iv 2, rv bf, iv 0, iv k1]) rfl ?_
  refine XS.aloadN X141.here hx rfl (hb hby d3_97) rfl rfl ?_
  exact kt)
 obtain ⟨T168, X168, e168, ls168⟩ := getF X141 hx hZ hown (host := "") (Or.inl (own_w hw 45 rfl)) Via.refl e141 f149 (g := (mkF m 98 #[rv ao, rv ae, iv (Int32.ofNat ev), iv 2, rv bf, iv 0, iv k1] [.ref ao])) rfl rfl (hb hby d3_98)
 have st169 := fun t kt => st167 t (ls168 t kt)
 have hc170 : (0 : Int32) = (0 : Int32) := rfl
 have st171 : own_K p e below T168 m 121 #[rv ao, rv ae, iv (Int32.ofNat ev), iv 2, rv bf, iv 0, iv k1] [.ref ao] B0 := fun t kt => st169 t (by
  refine XS.ifYes X168.here hx rfl (pc0 := 101) (pc' := 120) rfl (hb hby d3_101) rfl ((if0 _ _).trans (teq hc170).1) (by decide) (by decide) ?_
  refine XS.aloadN X168.here hx rfl (hb hby d3_120) rfl rfl ?_
  exact kt)
 obtain ⟨T172, X172, e172, ls172⟩ := getF X168 hx hZ hown (host := "") (Or.inl (own_w hw 21 rfl)) Via.refl e168 f143 (g := (mkF m 121 #[rv ao, rv ae, iv (Int32.ofNat ev), iv 2, rv bf, iv 0, iv k1] [.ref ao])) rfl rfl (hb hby d3_121)
 have st173 := fun t kt => st171 t (ls172 t kt)
 have st174 : own_K p e below T172 m 125 #[rv ao, rv ae, iv (Int32.ofNat ev), iv 2, rv bf, iv 0, iv k1] [.ref ao, .ref bk] B0 := fun t kt => st173 t (by
  refine XS.aloadN X172.here hx rfl (hb hby d3_124) rfl rfl ?_
  exact kt)
 obtain ⟨T175, X175, e175, ls175⟩ := getF X172 hx hZ hown (host := "") (Or.inl (own_w hw 45 rfl)) Via.refl e172 f149 (g := (mkF m 125 #[rv ao, rv ae, iv (Int32.ofNat ev), iv 2, rv bf, iv 0, iv k1] [.ref ao, .ref bk])) rfl rfl (hb hby d3_125)
 have st176 := fun t kt => st174 t (ls175 t kt)
 have st177 : own_K p e below T175 m 130 #[rv ao, rv ae, iv (Int32.ofNat ev), iv 2, rv bf, iv 0, iv k1] [.int k1, .int 0, .ref bk] B0 := fun t kt => st176 t (by
  refine XS.iload X175.here hx rfl (hb hby d3_128) rfl ?_
  exact kt)
 obtain ⟨T178, h178, X178, e178, W178, B178, ls178⟩ := own_iastore X175 hx hZ e175 f154 (j := (0 : Int32)) (i := 0) (by decide) (by decide) (by decide) (g := (mkF m 130 #[rv ao, rv ae, iv (Int32.ofNat ev), iv 2, rv bf, iv 0, iv k1] [.int k1, .int 0, .ref bk])) rfl rfl (hb hby d3_130)
 have N178 := Fr.snoc X178 N122 g_bk
 have f179 := f142.other W178 (Or.inl ne_ao_bk)
 have f180 := f143.other W178 (Or.inl ne_ao_bk)
 have f181 := f144.other W178 (Or.inl ne_ao_bk)
 have f182 := f145.other W178 (Or.inl ne_ao_bk)
 have f183 := f146.other W178 (Or.inl ne_ao_bk)
 have f184 := f147.other W178 (Or.inl ne_ao_bk)
 have f185 := f148.other W178 (Or.inl ne_ao_bk)
 have f186 := f149.other W178 (Or.inl ne_ao_bk)
 have f187 := f150.other W178 (Or.inl ne_ao_bk)
 have f188 := f151.wr W178
 have f189 := f152.other W178 ne_ae_bk
 have f190 := f153.wr W178 g_bk
 have f191 := f155.other W178 (Ne.symm ne_bk_bl)
 have f192 := f156.other W178 (Ne.symm ne_bk_bc)
 have f193 := f158.other W178 (Ne.symm ne_bk_bf)
 have f194 := B141.wr W178
 have z195 := Nat.le_trans z157 (Keep.of_wr W178).1
 have f196 := B178
 have st197 := fun t kt => st177 t (ls178 t kt)
 have st198 : own_K p e below T178 m 132 #[rv ao, rv ae, iv (Int32.ofNat ev), iv 2, rv bf, iv 0, iv k1] [.ref ao] B0 := fun t kt => st197 t (by
  refine XS.aloadN X178.here hx rfl (hb hby d3_131) rfl rfl ?_
  exact kt)
 obtain ⟨T199, X199, e199, ls199⟩ := getF X178 hx hZ hown (host := "") (Or.inl (own_w hw 23 rfl)) Via.refl e178 f181 (g := (mkF m 132 #[rv ao, rv ae, iv (Int32.ofNat ev), iv 2, rv bf, iv 0, iv k1] [.ref ao])) rfl rfl (hb hby d3_132)
 have st200 := fun t kt => st198 t (ls199 t kt)
 have st201 : own_K p e below T199 m 136 #[rv ao, rv ae, iv (Int32.ofNat ev), iv 2, rv bf, iv 0, iv k1] [.ref ao, .ref bl] B0 := fun t kt => st200 t (by
  refine XS.aloadN X199.here hx rfl (hb hby d3_135) rfl rfl ?_
  exact kt)
 obtain ⟨T202, X202, e202, ls202⟩ := getF X199 hx hZ hown (host := "") (Or.inl (own_w hw 45 rfl)) Via.refl e199 f186 (g := (mkF m 136 #[rv ao, rv ae, iv (Int32.ofNat ev), iv 2, rv bf, iv 0, iv k1] [.ref ao, .ref bl])) rfl rfl (hb hby d3_136)
 have st203 := fun t kt => st201 t (ls202 t kt)
 have st204 : own_K p e below T202 m 140 #[rv ao, rv ae, iv (Int32.ofNat ev), iv 2, rv bf, iv 0, iv k1] [.ref ao, .int 0, .ref bl] B0 := fun t kt => st203 t (by
  refine XS.aloadN X202.here hx rfl (hb hby d3_139) rfl rfl ?_
  exact kt)
 obtain ⟨T205, X205, e205, ls205⟩ := getF X202 hx hZ hown (host := "") (Or.inl (own_w hw 45 rfl)) Via.refl e202 f186 (g := (mkF m 140 #[rv ao, rv ae, iv (Int32.ofNat ev), iv 2, rv bf, iv 0, iv k1] [.ref ao, .int 0, .ref bl])) rfl rfl (hb hby d3_140)
 have st206 := fun t kt => st204 t (ls205 t kt)
 obtain ⟨T207, h207, X207, e207, W207, B207, ls207⟩ := own_iastore X205 hx hZ e205 f191 (j := (0 : Int32)) (i := 0) (by decide) (by decide) (by decide) (g := (mkF m 143 #[rv ao, rv ae, iv (Int32.ofNat ev), iv 2, rv bf, iv 0, iv k1] [.int 0, .int 0, .ref bl])) rfl rfl (hb hby d3_143)
 have N207 := Fr.snoc X207 N178 g_bl
 have f208 := f179.other W207 (Or.inl ne_ao_bl)
 have f209 := f180.other W207 (Or.inl ne_ao_bl)
 have f210 := f181.other W207 (Or.inl ne_ao_bl)
 have f211 := f182.other W207 (Or.inl ne_ao_bl)
 have f212 := f183.other W207 (Or.inl ne_ao_bl)
 have f213 := f184.other W207 (Or.inl ne_ao_bl)
 have f214 := f185.other W207 (Or.inl ne_ao_bl)
 have f215 := f186.other W207 (Or.inl ne_ao_bl)
 have f216 := f187.other W207 (Or.inl ne_ao_bl)
 have f217 := f188.wr W207
 have f218 := f189.other W207 ne_ae_bl
 have f219 := f190.wr W207 g_bl
 have f220 := f192.other W207 (Ne.symm ne_bl_bc)
 have f221 := f193.other W207 (Ne.symm ne_bl_bf)
 have f222 := f194.wr W207
 have f223 := f196.other W207 ne_bk_bl
 have z224 := Nat.le_trans z195 (Keep.of_wr W207).1
 have f225 := B207
 have st226 := fun t kt => st206 t (ls207 t kt)
 have st227 : own_K p e below T207 m 146 #[rv ao, rv ae, iv (Int32.ofNat ev), iv 2, rv bf, iv 0, iv k1] [.ref ao, .ref ao] B0 := fun t kt => st226 t (by
  refine XS.aloadN X207.here hx rfl (hb hby d3_144) rfl rfl ?_
  refine XS.dup X207.here hx rfl (hb hby d3_145) rfl rfl ?_
  exact kt)
 obtain ⟨T228, X228, e228, ls228⟩ := getF X207 hx hZ hown (host := "") (Or.inl (own_w hw 45 rfl)) Via.refl e207 f215 (g := (mkF m 146 #[rv ao, rv ae, iv (Int32.ofNat ev), iv 2, rv bf, iv 0, iv k1] [.ref ao, .ref ao])) rfl rfl (hb hby d3_146)
 have st229 := fun t kt => st227 t (ls228 t kt)
 have st230 : own_K p e below T228 m 151 #[rv ao, rv ae, iv (Int32.ofNat ev), iv 2, rv bf, iv 0, iv k1] [.int 1, .ref ao] B0 := fun t kt => st229 t (by
  refine XS.iconst X228.here hx rfl (hb hby d3_149) ?_
  refine XS.iadd X228.here hx rfl (hb hby d3_150) rfl ?_
  show own_At p e below T228 m 151 #[rv ao, rv ae, iv (Int32.ofNat ev), iv 2, rv bf, iv 0, iv k1] [(.int ((0 : Int32) + (1 : Int32))), .ref ao] _
  rw [show ((0 : Int32) + (1 : Int32)) = (1 : Int32) from (by decide +kernel)]
  exact kt)
 obtain ⟨T231, h231, X231, e231, W231, ls231⟩ := putF X228 hx hZ hown (host := "") (Or.inl (own_w hw 45 rfl)) Via.refl e228 f215 f217 (Or.inl (own_w hw 46 rfl)) (own_w hw 11 rfl) (ty := .int) (by decide) rfl rfl (g := (mkF m 151 #[rv ao, rv ae, iv (Int32.ofNat ev), iv 2, rv bf, iv 0, iv k1] [.int 1, .ref ao])) rfl rfl (hb hby d3_151)
 have N231 := Fr.snoc X231 N207 g_ao
 have f232 := f208.other W231 (Or.inr (own_s20_46 hw))
 have f233 := f209.other W231 (Or.inr (own_s22_46 hw))
 have f234 := f210.other W231 (Or.inr (own_s24_46 hw))
 have f235 := f211.other W231 (Or.inr (own_s26_46 hw))
 have f236 := f212.other W231 (Or.inr (own_s29_46 hw))
 have f237 := f213.other W231 (Or.inr (own_s33_46 hw))
 have f238 := f214.other W231 (Or.inr (own_s35_46 hw))
 have f239 := f215.same W231
 have f240 := f216.other W231 (Or.inr (own_s66_46 hw))
 have f241 := f217.wr W231
 have f242 := f218.other W231 (Ne.symm ne_ao_ae)
 have f243 := f219.wr W231 g_ao
 have f244 := f220.other W231 (Ne.symm ne_ao_bc)
 have f245 := f221.other W231 (Ne.symm ne_ao_bf)
 have f246 := f222.wr W231
 have f247 := f223.other W231 (Ne.symm ne_ao_bk)
 have f248 := f225.other W231 (Ne.symm ne_ao_bl)
 have z249 := Nat.le_trans z224 (Keep.of_wr W231).1
 have st250 := fun t kt => st230 t (ls231 t kt)
 have st251 : own_K p e below T231 m 155 #[rv ao, rv ae, iv (Int32.ofNat ev), iv 2, rv bf, iv 0, iv k1] [.ref ao] B0 := fun t kt => st250 t (by
  refine XS.aloadN X231.here hx rfl (hb hby d3_154) rfl rfl ?_
  exact kt)
 obtain ⟨T252, X252, e252, ls252⟩ := getF X231 hx hZ hown (host := "") (Or.inl (own_w hw 25 rfl)) Via.refl e231 f235 (g := (mkF m 155 #[rv ao, rv ae, iv (Int32.ofNat ev), iv 2, rv bf, iv 0, iv k1] [.ref ao])) rfl rfl (hb hby d3_155)
 have st253 := fun t kt => st251 t (ls252 t kt)
 have st254 : own_K p e below T252 m 159 #[rv ao, rv ae, iv (Int32.ofNat ev), iv 2, rv bf, iv 0, iv k1] [.ref ao, .ref bc] B0 := fun t kt => st253 t (by
  refine XS.aloadN X252.here hx rfl (hb hby d3_158) rfl rfl ?_
  exact kt)
 obtain ⟨T255, X255, e255, ls255⟩ := getF X252 hx hZ hown (host := "") (Or.inl (own_w hw 45 rfl)) Via.refl e252 f239 (g := (mkF m 159 #[rv ao, rv ae, iv (Int32.ofNat ev), iv 2, rv bf, iv 0, iv k1] [.ref ao, .ref bc])) rfl rfl (hb hby d3_159)
 have st256 := fun t kt => st254 t (ls255 t kt)
 have st257 : own_K p e below T255 m 170 #[rv ao, rv ae, iv (Int32.ofNat ev), iv 2, rv bf, iv 0, iv k1] [.int 0, .ref ae, (.int ((Int32.ofNat 0) <<< ((6 : Int32) &&& 31))), .ref bc] B0 := fun t kt => st256 t (by
  refine XS.iconst X255.here hx rfl (hb hby d3_162) ?_
  refine XS.isub X255.here hx rfl (hb hby d3_163) rfl ?_
  show own_At p e below T255 m 164 #[rv ao, rv ae, iv (Int32.ofNat ev), iv 2, rv bf, iv 0, iv k1] [(.int ((1 : Int32) - (1 : Int32))), .ref bc] _
  rw [show ((1 : Int32) - (1 : Int32)) = (Int32.ofNat 0) from (by decide +kernel)]
  refine XS.bipush X255.here hx rfl (hb hby d3_164) ?_
  refine XS.ishl X255.here hx rfl (hb hby d3_166) rfl ?_
  refine XS.aloadN X255.here hx rfl (hb hby d3_167) rfl rfl ?_
  refine XS.iload X255.here hx rfl (hb hby d3_168) rfl ?_
  exact kt)
 have ls258 := own_iaload X255 hx hZ e255 f242 (j := (0 : Int32)) (i := 0) (by decide) (by decide) (by decide) (v := (.int v1)) (hv0) (g := (mkF m 170 #[rv ao, rv ae, iv (Int32.ofNat ev), iv 2, rv bf, iv 0, iv k1] [.int 0, .ref ae, (.int ((Int32.ofNat 0) <<< ((6 : Int32) &&& 31))), .ref bc])) rfl rfl (hb hby d3_170)
 have st259 := fun t kt => st257 t (ls258 t kt)
 have st260 : own_K p e below T255 m 180 #[rv ao, rv ae, iv (Int32.ofNat ev), iv 2, rv bf, iv 0, iv k1] [(.int ((0 : Int32) + (1 : Int32))), .ref ae, (.int (Int32.ofNat (64 * 0 + own_pl v1))), .ref bc] B0 := fun t kt => st259 t (by
  refine XS.bipush X255.here hx rfl (hb hby d3_171) ?_
  refine XS.iand X255.here hx rfl (hb hby d3_173) rfl ?_
  refine XS.ior X255.here hx rfl (hb hby d3_174) rfl ?_
  show own_At p e below T255 m 175 #[rv ao, rv ae, iv (Int32.ofNat ev), iv 2, rv bf, iv 0, iv k1] [(.int (((Int32.ofNat 0) <<< ((6 : Int32) &&& 31)) ||| (v1 &&& (63 : Int32)))), .ref bc] _
  rw [show (((Int32.ofNat 0) <<< ((6 : Int32) &&& 31)) ||| (v1 &&& (63 : Int32))) = (Int32.ofNat (64 * 0 + own_pl v1)) from (own_idx6 0 v1 (by decide))]
  refine XS.aloadN X255.here hx rfl (hb hby d3_175) rfl rfl ?_
  refine XS.iload X255.here hx rfl (hb hby d3_176) rfl ?_
  refine XS.iconst X255.here hx rfl (hb hby d3_178) ?_
  refine XS.iadd X255.here hx rfl (hb hby d3_179) rfl ?_
  exact kt)
 have ls261 := own_iaload X255 hx hZ e255 f242 (j := ((0 : Int32) + (1 : Int32))) (i := 1) (by decide) (by decide) (by decide) (v := (.int c1)) (hc0) (g := (mkF m 180 #[rv ao, rv ae, iv (Int32.ofNat ev), iv 2, rv bf, iv 0, iv k1] [(.int ((0 : Int32) + (1 : Int32))), .ref ae, (.int (Int32.ofNat (64 * 0 + own_pl v1))), .ref bc])) rfl rfl (hb hby d3_180)
 have st262 := fun t kt => st260 t (ls261 t kt)
 have pl0 := own_pl_lt v1
 have xx0 := own_nat32 (show (64 * 0 + own_pl v1) < 2 ^ 31 by omega)
 obtain ⟨T264, h264, X264, e264, W264, B264, ls264⟩ := own_iastore X255 hx hZ e255 f244 (j := (Int32.ofNat (64 * 0 + own_pl v1))) (i := (64 * 0 + own_pl v1)) (xx0.2) (xx0.1) (by omega) (g := (mkF m 181 #[rv ao, rv ae, iv (Int32.ofNat ev), iv 2, rv bf, iv 0, iv k1] [.int c1, (.int (Int32.ofNat (64 * 0 + own_pl v1))), .ref bc])) rfl rfl (hb hby d3_181)
 have N264 := Fr.snoc X264 N231 g_bc
 have f265 := f232.other W264 (Or.inl ne_ao_bc)
 have f266 := f233.other W264 (Or.inl ne_ao_bc)
 have f267 := f234.other W264 (Or.inl ne_ao_bc)
 have f268 := f235.other W264 (Or.inl ne_ao_bc)
 have f269 := f236.other W264 (Or.inl ne_ao_bc)
 have f270 := f237.other W264 (Or.inl ne_ao_bc)
 have f271 := f238.other W264 (Or.inl ne_ao_bc)
 have f272 := f239.other W264 (Or.inl ne_ao_bc)
 have f273 := f240.other W264 (Or.inl ne_ao_bc)
 have f274 := f241.wr W264
 have f275 := f242.other W264 ne_ae_bc
 have f276 := f243.wr W264 g_bc
 have f277 := f245.other W264 (Ne.symm ne_bc_bf)
 have f278 := f246.wr W264
 have f279 := f247.other W264 ne_bk_bc
 have f280 := f248.other W264 ne_bl_bc
 have z281 := Nat.le_trans z249 (Keep.of_wr W264).1
 have f282 := B264
 have st283 := fun t kt => st262 t (ls264 t kt)
 have st284 : own_K p e below T264 m 185 #[rv ao, rv ae, iv (Int32.ofNat ev), iv 2, rv bf, iv 0, iv k1] [.ref ao, .ref bf] B0 := fun t kt => st283 t (by
  refine XS.aload X264.here hx rfl (hb hby d3_182) rfl rfl ?_
  refine XS.aloadN X264.here hx rfl (hb hby d3_184) rfl rfl ?_
  exact kt)
 obtain ⟨T285, X285, e285, ls285⟩ := getF X264 hx hZ hown (host := "") (Or.inl (own_w hw 45 rfl)) Via.refl e264 f272 (g := (mkF m 185 #[rv ao, rv ae, iv (Int32.ofNat ev), iv 2, rv bf, iv 0, iv k1] [.ref ao, .ref bf])) rfl rfl (hb hby d3_185)
 have st286 := fun t kt => st284 t (ls285 t kt)
 have st287 : own_K p e below T285 m 191 #[rv ao, rv ae, iv (Int32.ofNat ev), iv 2, rv bf, iv 0, iv k1] [.int 0, .ref bf, .int 0, .ref bf] B0 := fun t kt => st286 t (by
  refine XS.iconst X285.here hx rfl (hb hby d3_188) ?_
  refine XS.isub X285.here hx rfl (hb hby d3_189) rfl ?_
  show own_At p e below T285 m 190 #[rv ao, rv ae, iv (Int32.ofNat ev), iv 2, rv bf, iv 0, iv k1] [(.int ((1 : Int32) - (1 : Int32))), .ref bf] _
  rw [show ((1 : Int32) - (1 : Int32)) = (0 : Int32) from (by decide +kernel)]
  show own_At p e below T285 m 190 #[rv ao, rv ae, iv (Int32.ofNat ev), iv 2, rv bf, iv 0, iv k1] [.int 0, .ref bf] _
  jvm_step X285.here [X285.here.top, hx, (hb hby d3_190), Value.category]
  exact kt)
 have ls288 := own_laload X285 hx hZ e285 f277 (j := (0 : Int32)) (i := 0) (by decide) (by decide) (by decide) (v := (.long (0 : Int64))) (rfl) (g := (mkF m 191 #[rv ao, rv ae, iv (Int32.ofNat ev), iv 2, rv bf, iv 0, iv k1] [.int 0, .ref bf, .int 0, .ref bf])) rfl rfl (hb hby d3_191)
 have st289 := fun t kt => st287 t (ls288 t kt)
 have st290 : own_K p e below T285 m 196 #[rv ao, rv ae, iv (Int32.ofNat ev), iv 2, rv bf, iv 0, iv k1] [.int 0, .ref ae, .long (1 : Int64), .long (0 : Int64), .int 0, .ref bf] B0 := fun t kt => st289 t (by
  refine XS.lconst X285.here hx rfl (hb hby d3_192) ?_
  refine XS.aloadN X285.here hx rfl (hb hby d3_193) rfl rfl ?_
  refine XS.iload X285.here hx rfl (hb hby d3_194) rfl ?_
  exact kt)
 have ls291 := own_iaload X285 hx hZ e285 f275 (j := (0 : Int32)) (i := 0) (by decide) (by decide) (by decide) (v := (.int v1)) (hv0) (g := (mkF m 196 #[rv ao, rv ae, iv (Int32.ofNat ev), iv 2, rv bf, iv 0, iv k1] [.int 0, .ref ae, .long (1 : Int64), .long (0 : Int64), .int 0, .ref bf])) rfl rfl (hb hby d3_196)
 have st292 := fun t kt => st290 t (ls291 t kt)
 obtain ⟨x_f0, h_x_f0⟩ : ∃ z : Int64, z = ((0 : Int64) ||| ((1 : Int64) <<< ((v1 &&& (63 : Int32)) &&& 0x3f).toInt64)) := ⟨_, rfl⟩
 have st293 : own_K p e below T285 m 202 #[rv ao, rv ae, iv (Int32.ofNat ev), iv 2, rv bf, iv 0, iv k1] [.long x_f0, .int 0, .ref bf] B0 := fun t kt => st292 t (by
  refine XS.bipush X285.here hx rfl (hb hby d3_197) ?_
  refine XS.iand X285.here hx rfl (hb hby d3_199) rfl ?_
  refine XS.lshl X285.here hx rfl (hb hby d3_200) rfl ?_
  refine XS.lor X285.here hx rfl (hb hby d3_201) rfl ?_
  show own_At p e below T285 m 202 #[rv ao, rv ae, iv (Int32.ofNat ev), iv 2, rv bf, iv 0, iv k1] [(.long ((0 : Int64) ||| ((1 : Int64) <<< ((v1 &&& (63 : Int32)) &&& 0x3f).toInt64))), .int 0, .ref bf] _
  rw [← h_x_f0]
  exact kt)
 obtain ⟨T294, h294, X294, e294, W294, B294, ls294⟩ := own_lastore X285 hx hZ e285 f277 (j := (0 : Int32)) (i := 0) (by decide) (by decide) (by decide) (g := (mkF m 202 #[rv ao, rv ae, iv (Int32.ofNat ev), iv 2, rv bf, iv 0, iv k1] [.long x_f0, .int 0, .ref bf])) rfl rfl (hb hby d3_202)
 have N294 := Fr.snoc X294 N264 g_bf
 have f295 := f265.other W294 (Or.inl ne_ao_bf)
 have f296 := f266.other W294 (Or.inl ne_ao_bf)
 have f297 := f267.other W294 (Or.inl ne_ao_bf)
 have f298 := f268.other W294 (Or.inl ne_ao_bf)
 have f299 := f269.other W294 (Or.inl ne_ao_bf)
 have f300 := f270.other W294 (Or.inl ne_ao_bf)
 have f301 := f271.other W294 (Or.inl ne_ao_bf)
 have f302 := f272.other W294 (Or.inl ne_ao_bf)
 have f303 := f273.other W294 (Or.inl ne_ao_bf)
 have f304 := f274.wr W294
 have f305 := f275.other W294 ne_ae_bf
 have f306 := f276.wr W294 g_bf
 have f307 := f278.wr W294
 have f308 := f279.other W294 ne_bk_bf
 have f309 := f280.other W294 ne_bl_bf
 have f310 := f282.other W294 ne_bc_bf
 have z311 := Nat.le_trans z281 (Keep.of_wr W294).1
 have f312 := B294
 have st313 := fun t kt => st293 t (ls294 t kt)
 have st314 : own_K p e below T294 m 84 #[rv ao, rv ae, iv (Int32.ofNat ev), iv 2, rv bf, iv ((0 : Int32) + (2 : Int32)), iv k1] [.ref ae, (.int ((0 : Int32) + (2 : Int32)))] B0 := fun t kt => st313 t (by
  refine XS.iinc X294.here hx rfl (hb hby d3_203) rfl (l' := #[rv ao, rv ae, iv (Int32.ofNat ev), iv 2, rv bf, iv ((0 : Int32) + (2 : Int32)), iv k1]) rfl ?_
  refine XS.goto X294.here hx rfl (pc0 := 206) (pc' := 81) rfl (hb hby d3_206) (by decide) (by decide) ?_
  refine XS.iload X294.here hx rfl (hb hby d3_81) rfl ?_
  refine XS.aloadN X294.here hx rfl (hb hby d3_83) rfl rfl ?_
  exact kt)
 have ls315 := own_alen X294 hx hZ e294 f305 (g := (mkF m 84 #[rv ao, rv ae, iv (Int32.ofNat ev), iv 2, rv bf, iv ((0 : Int32) + (2 : Int32)), iv k1] [.ref ae, (.int ((0 : Int32) + (2 : Int32)))])) rfl rfl (hb hby d3_84)
 have st316 := fun t kt => st314 t (ls315 t kt)
 have hc317 : ((0 : Int32) + (2 : Int32)) < (4 : Int32) := by decide
 have st318 : own_K p e below T294 m 91 #[rv ao, rv ae, iv (Int32.ofNat ev), iv 2, rv bf, iv ((0 : Int32) + (2 : Int32)), iv k1] [(.int ((0 : Int32) + (2 : Int32))), .ref ae] B0 := fun t kt => st316 t (by
  refine XS.icmpNo X294.here hx rfl (hb hby d3_85) rfl (tlt hc317).2.1 ?_
  refine XS.aloadN X294.here hx rfl (hb hby d3_88) rfl rfl ?_
  refine XS.iload X294.here hx rfl (hb hby d3_89) rfl ?_
  exact kt)
 have ls319 := own_iaload X294 hx hZ e294 f305 (j := ((0 : Int32) + (2 : Int32))) (i := 2) (by decide) (by decide) (by decide) (v := (.int v2)) (hv1) (g := (mkF m 91 #[rv ao, rv ae, iv (Int32.ofNat ev), iv 2, rv bf, iv ((0 : Int32) + (2 : Int32)), iv k1] [(.int ((0 : Int32) + (2 : Int32))), .ref ae])) rfl rfl (hb hby d3_91)
 have st320 := fun t kt => st318 t (ls319 t kt)
 obtain ⟨k2, h_k2⟩ : ∃ z : Int32, z = ((v2.toUInt32 >>> ((6 : Int32) &&& 31).toUInt32).toInt32) := ⟨_, rfl⟩
 have st321 : own_K p e below T294 m 98 #[rv ao, rv ae, iv (Int32.ofNat ev), iv 2, rv bf, iv ((0 : Int32) + (2 : Int32)), iv k2] [.ref ao] B0 := fun t kt => st320 t (by
  refine XS.bipush X294.here hx rfl (hb hby d3_92) ?_
  refine XS.iushr X294.here hx rfl (hb hby d3_94) rfl ?_
  show own_At p e below T294 m 95 #[rv ao, rv ae, iv (Int32.ofNat ev), iv 2, rv bf, iv ((0 : Int32) + (2 : Int32)), iv k1] [(.int ((v2.toUInt32 >>> ((6 : Int32) &&& 31).toUInt32).toInt32))] _
  rw [← h_k2]
  refine XS.istore X294.here hx rfl (hb hby d3_95) rfl (l' := #[rv ao, rv ae, iv (Int32.ofNat ev), iv 2, rv bf, iv ((0 : Int32) + (2 : Int32)), iv k2]) rfl ?_
  refine XS.aloadN X294.here hx rfl (hb hby d3_97) rfl rfl ?_
  exact kt)
 obtain ⟨T322, X322, e322, ls322⟩ := getF X294 hx hZ hown (host := "") (Or.inl (own_w hw 45 rfl)) Via.refl e294 f302 (g := (mkF m 98 #[rv ao, rv ae, iv (Int32.ofNat ev), iv 2, rv bf, iv ((0 : Int32) + (2 : Int32)), iv k2] [.ref ao])) rfl rfl (hb hby d3_98)
 have st323 := fun t kt => st321 t (ls322 t kt)
 have hc324 : ¬ ((1 : Int32) = (0 : Int32)) := by decide
 have st325 : own_K p e below T322 m 105 #[rv ao, rv ae, iv (Int32.ofNat ev), iv 2, rv bf, iv ((0 : Int32) + (2 : Int32)), iv k2] [.ref ao] B0 := fun t kt => st323 t (by
  refine XS.ifNo X322.here hx rfl (hb hby d3_101) rfl ((if0 _ _).trans (feq hc324).1) ?_
  refine XS.aloadN X322.here hx rfl (hb hby d3_104) rfl rfl ?_
  exact kt)
 obtain ⟨T326, X326, e326, ls326⟩ := getF X322 hx hZ hown (host := "") (Or.inl (own_w hw 21 rfl)) Via.refl e322 f296 (g := (mkF m 105 #[rv ao, rv ae, iv (Int32.ofNat ev), iv 2, rv bf, iv ((0 : Int32) + (2 : Int32)), iv k2] [.ref ao])) rfl rfl (hb hby d3_105)
 have st327 := fun t kt => st325 t (ls326 t kt)
 have st328 : own_K p e below T326 m 109 #[rv ao, rv ae, iv (Int32.ofNat ev), iv 2, rv bf, iv ((0 : Int32) + (2 : Int32)), iv k2] [.ref ao, .ref bk] B0 := fun t kt => st327 t (by
  refine XS.aloadN X326.here hx rfl (hb hby d3_108) rfl rfl ?_
  exact kt)
 obtain ⟨T329, X329, e329, ls329⟩ := getF X326 hx hZ hown (host := "") (Or.inl (own_w hw 45 rfl)) Via.refl e326 f302 (g := (mkF m 109 #[rv ao, rv ae, iv (Int32.ofNat ev), iv 2, rv bf, iv ((0 : Int32) + (2 : Int32)), iv k2] [.ref ao, .ref bk])) rfl rfl (hb hby d3_109)
 have st330 := fun t kt => st328 t (ls329 t kt)
 have st331 : own_K p e below T329 m 114 #[rv ao, rv ae, iv (Int32.ofNat ev), iv 2, rv bf, iv ((0 : Int32) + (2 : Int32)), iv k2] [(.int ((1 : Int32) - (1 : Int32))), .ref bk] B0 := fun t kt => st330 t (by
  refine XS.iconst X329.here hx rfl (hb hby d3_112) ?_
  refine XS.isub X329.here hx rfl (hb hby d3_113) rfl ?_
  exact kt)
 have ls332 := own_iaload X329 hx hZ e329 f308 (j := ((1 : Int32) - (1 : Int32))) (i := 0) (by decide) (by decide) (by decide) (v := (.int k1)) (rfl) (g := (mkF m 114 #[rv ao, rv ae, iv (Int32.ofNat ev), iv 2, rv bf, iv ((0 : Int32) + (2 : Int32)), iv k2] [(.int ((1 : Int32) - (1 : Int32))), .ref bk])) rfl rfl (hb hby d3_114)
 have st333 := fun t kt => st331 t (ls332 t kt)
 have hc334 : ¬ (k1 = k2) := fun z => hkk (by rw [own_key_def, own_key_def, ← h_k2, ← h_k1, z])
 have st335 : own_K p e below T329 m 121 #[rv ao, rv ae, iv (Int32.ofNat ev), iv 2, rv bf, iv ((0 : Int32) + (2 : Int32)), iv k2] [.ref ao] B0 := fun t kt => st333 t (by
  refine XS.iload X329.here hx rfl (hb hby d3_115) rfl ?_
  refine XS.icmpNo X329.here hx rfl (hb hby d3_117) rfl (feq hc334).1 ?_
  refine XS.aloadN X329.here hx rfl (hb hby d3_120) rfl rfl ?_
  exact kt)
 obtain ⟨T336, X336, e336, ls336⟩ := getF X329 hx hZ hown (host := "") (Or.inl (own_w hw 21 rfl)) Via.refl e329 f296 (g := (mkF m 121 #[rv ao, rv ae, iv (Int32.ofNat ev), iv 2, rv bf, iv ((0 : Int32) + (2 : Int32)), iv k2] [.ref ao])) rfl rfl (hb hby d3_121)
 have st337 := fun t kt => st335 t (ls336 t kt)
 have st338 : own_K p e below T336 m 125 #[rv ao, rv ae, iv (Int32.ofNat ev), iv 2, rv bf, iv ((0 : Int32) + (2 : Int32)), iv k2] [.ref ao, .ref bk] B0 := fun t kt => st337 t (by
  refine XS.aloadN X336.here hx rfl (hb hby d3_124) rfl rfl ?_
  exact kt)
 obtain ⟨T339, X339, e339, ls339⟩ := getF X336 hx hZ hown (host := "") (Or.inl (own_w hw 45 rfl)) Via.refl e336 f302 (g := (mkF m 125 #[rv ao, rv ae, iv (Int32.ofNat ev), iv 2, rv bf, iv ((0 : Int32) + (2 : Int32)), iv k2] [.ref ao, .ref bk])) rfl rfl (hb hby d3_125)
 have st340 := fun t kt => st338 t (ls339 t kt)
 have st341 : own_K p e below T339 m 130 #[rv ao, rv ae, iv (Int32.ofNat ev), iv 2, rv bf, iv ((0 : Int32) + (2 : Int32)), iv k2] [.int k2, .int 1, .ref bk] B0 := fun t kt => st340 t (by
  refine XS.iload X339.here hx rfl (hb hby d3_128) rfl ?_
  exact kt)
 obtain ⟨T342, h342, X342, e342, W342, B342, ls342⟩ := own_iastore X339 hx hZ e339 f308 (j := (1 : Int32)) (i := 1) (by decide) (by decide) (by decide) (g := (mkF m 130 #[rv ao, rv ae, iv (Int32.ofNat ev), iv 2, rv bf, iv ((0 : Int32) + (2 : Int32)), iv k2] [.int k2, .int 1, .ref bk])) rfl rfl (hb hby d3_130)
 have N342 := Fr.snoc X342 N294 g_bk
 have f343 := f295.other W342 (Or.inl ne_ao_bk)
 have f344 := f296.other W342 (Or.inl ne_ao_bk)
 have f345 := f297.other W342 (Or.inl ne_ao_bk)
 have f346 := f298.other W342 (Or.inl ne_ao_bk)
 have f347 := f299.other W342 (Or.inl ne_ao_bk)
 have f348 := f300.other W342 (Or.inl ne_ao_bk)
 have f349 := f301.other W342 (Or.inl ne_ao_bk)
 have f350 := f302.other W342 (Or.inl ne_ao_bk)
 have f351 := f303.other W342 (Or.inl ne_ao_bk)
 have f352 := f304.wr W342
 have f353 := f305.other W342 ne_ae_bk
 have f354 := f306.wr W342 g_bk
 have f355 := f307.wr W342
 have f356 := f309.other W342 (Ne.symm ne_bk_bl)
 have f357 := f310.other W342 (Ne.symm ne_bk_bc)
 have f358 := f312.other W342 (Ne.symm ne_bk_bf)
 have z359 := Nat.le_trans z311 (Keep.of_wr W342).1
 have f360 := B342
 have st361 := fun t kt => st341 t (ls342 t kt)
 have st362 : own_K p e below T342 m 132 #[rv ao, rv ae, iv (Int32.ofNat ev), iv 2, rv bf, iv ((0 : Int32) + (2 : Int32)), iv k2] [.ref ao] B0 := fun t kt => st361 t (by
  refine XS.aloadN X342.here hx rfl (hb hby d3_131) rfl rfl ?_
  exact kt)
 obtain ⟨T363, X363, e363, ls363⟩ := getF X342 hx hZ hown (host := "") (Or.inl (own_w hw 23 rfl)) Via.refl e342 f345 (g := (mkF m 132 #[rv ao, rv ae, iv (Int32.ofNat ev), iv 2, rv bf, iv ((0 : Int32) + (2 : Int32)), iv k2] [.ref ao])) rfl rfl (hb hby d3_132)
 have st364 := fun t kt => st362 t (ls363 t kt)
 have st365 : own_K p e below T363 m 136 #[rv ao, rv ae, iv (Int32.ofNat ev), iv 2, rv bf, iv ((0 : Int32) + (2 : Int32)), iv k2] [.ref ao, .ref bl] B0 := fun t kt => st364 t (by
  refine XS.aloadN X363.here hx rfl (hb hby d3_135) rfl rfl ?_
  exact kt)
 obtain ⟨T366, X366, e366, ls366⟩ := getF X363 hx hZ hown (host := "") (Or.inl (own_w hw 45 rfl)) Via.refl e363 f350 (g := (mkF m 136 #[rv ao, rv ae, iv (Int32.ofNat ev), iv 2, rv bf, iv ((0 : Int32) + (2 : Int32)), iv k2] [.ref ao, .ref bl])) rfl rfl (hb hby d3_136)
 have st367 := fun t kt => st365 t (ls366 t kt)
 have st368 : own_K p e below T366 m 140 #[rv ao, rv ae, iv (Int32.ofNat ev), iv 2, rv bf, iv ((0 : Int32) + (2 : Int32)), iv k2] [.ref ao, .int 1, .ref bl] B0 := fun t kt => st367 t (by
  refine XS.aloadN X366.here hx rfl (hb hby d3_139) rfl rfl ?_
  exact kt)
 obtain ⟨T369, X369, e369, ls369⟩ := getF X366 hx hZ hown (host := "") (Or.inl (own_w hw 45 rfl)) Via.refl e366 f350 (g := (mkF m 140 #[rv ao, rv ae, iv (Int32.ofNat ev), iv 2, rv bf, iv ((0 : Int32) + (2 : Int32)), iv k2] [.ref ao, .int 1, .ref bl])) rfl rfl (hb hby d3_140)
 have st370 := fun t kt => st368 t (ls369 t kt)
 obtain ⟨T371, h371, X371, e371, W371, B371, ls371⟩ := own_iastore X369 hx hZ e369 f356 (j := (1 : Int32)) (i := 1) (by decide) (by decide) (by decide) (g := (mkF m 143 #[rv ao, rv ae, iv (Int32.ofNat ev), iv 2, rv bf, iv ((0 : Int32) + (2 : Int32)), iv k2] [.int 1, .int 1, .ref bl])) rfl rfl (hb hby d3_143)
 have N371 := Fr.snoc X371 N342 g_bl
 have f372 := f343.other W371 (Or.inl ne_ao_bl)
 have f373 := f344.other W371 (Or.inl ne_ao_bl)
 have f374 := f345.other W371 (Or.inl ne_ao_bl)
 have f375 := f346.other W371 (Or.inl ne_ao_bl)
 have f376 := f347.other W371 (Or.inl ne_ao_bl)
 have f377 := f348.other W371 (Or.inl ne_ao_bl)
 have f378 := f349.other W371 (Or.inl ne_ao_bl)
 have f379 := f350.other W371 (Or.inl ne_ao_bl)
 have f380 := f351.other W371 (Or.inl ne_ao_bl)
 have f381 := f352.wr W371
 have f382 := f353.other W371 ne_ae_bl
 have f383 := f354.wr W371 g_bl
 have f384 := f355.wr W371
 have f385 := f357.other W371 (Ne.symm ne_bl_bc)
 have f386 := f358.other W371 (Ne.symm ne_bl_bf)
 have f387 := f360.other W371 ne_bk_bl
 have z388 := Nat.le_trans z359 (Keep.of_wr W371).1
 have f389 := B371
 have st390 := fun t kt => st370 t (ls371 t kt)
 have st391 : own_K p e below T371 m 146 #[rv ao, rv ae, iv (Int32.ofNat ev), iv 2, rv bf, iv ((0 : Int32) + (2 : Int32)), iv k2] [.ref ao, .ref ao] B0 := fun t kt => st390 t (by
  refine XS.aloadN X371.here hx rfl (hb hby d3_144) rfl rfl ?_
  refine XS.dup X371.here hx rfl (hb hby d3_145) rfl rfl ?_
  exact kt)
 obtain ⟨T392, X392, e392, ls392⟩ := getF X371 hx hZ hown (host := "") (Or.inl (own_w hw 45 rfl)) Via.refl e371 f379 (g := (mkF m 146 #[rv ao, rv ae, iv (Int32.ofNat ev), iv 2, rv bf, iv ((0 : Int32) + (2 : Int32)), iv k2] [.ref ao, .ref ao])) rfl rfl (hb hby d3_146)
 have st393 := fun t kt => st391 t (ls392 t kt)
 have st394 : own_K p e below T392 m 151 #[rv ao, rv ae, iv (Int32.ofNat ev), iv 2, rv bf, iv ((0 : Int32) + (2 : Int32)), iv k2] [.int 2, .ref ao] B0 := fun t kt => st393 t (by
  refine XS.iconst X392.here hx rfl (hb hby d3_149) ?_
  refine XS.iadd X392.here hx rfl (hb hby d3_150) rfl ?_
  show own_At p e below T392 m 151 #[rv ao, rv ae, iv (Int32.ofNat ev), iv 2, rv bf, iv ((0 : Int32) + (2 : Int32)), iv k2] [(.int ((1 : Int32) + (1 : Int32))), .ref ao] _
  rw [show ((1 : Int32) + (1 : Int32)) = (2 : Int32) from (by decide +kernel)]
  exact kt)
 obtain ⟨T395, h395, X395, e395, W395, ls395⟩ := putF X392 hx hZ hown (host := "") (Or.inl (own_w hw 45 rfl)) Via.refl e392 f379 f381 (Or.inl (own_w hw 46 rfl)) (own_w hw 11 rfl) (ty := .int) (by decide) rfl rfl (g := (mkF m 151 #[rv ao, rv ae, iv (Int32.ofNat ev), iv 2, rv bf, iv ((0 : Int32) + (2 : Int32)), iv k2] [.int 2, .ref ao])) rfl rfl (hb hby d3_151)
 have N395 := Fr.snoc X395 N371 g_ao
 have f396 := f372.other W395 (Or.inr (own_s20_46 hw))
 have f397 := f373.other W395 (Or.inr (own_s22_46 hw))
 have f398 := f374.other W395 (Or.inr (own_s24_46 hw))
 have f399 := f375.other W395 (Or.inr (own_s26_46 hw))
 have f400 := f376.other W395 (Or.inr (own_s29_46 hw))
 have f401 := f377.other W395 (Or.inr (own_s33_46 hw))
 have f402 := f378.other W395 (Or.inr (own_s35_46 hw))
 have f403 := f379.same W395
 have f404 := f380.other W395 (Or.inr (own_s66_46 hw))
 have f405 := f381.wr W395
 have f406 := f382.other W395 (Ne.symm ne_ao_ae)
 have f407 := f383.wr W395 g_ao
 have f408 := f384.wr W395
 have f409 := f385.other W395 (Ne.symm ne_ao_bc)
 have f410 := f386.other W395 (Ne.symm ne_ao_bf)
 have f411 := f387.other W395 (Ne.symm ne_ao_bk)
 have f412 := f389.other W395 (Ne.symm ne_ao_bl)
 have z413 := Nat.le_trans z388 (Keep.of_wr W395).1
 have st414 := fun t kt => st394 t (ls395 t kt)
 have st415 : own_K p e below T395 m 155 #[rv ao, rv ae, iv (Int32.ofNat ev), iv 2, rv bf, iv ((0 : Int32) + (2 : Int32)), iv k2] [.ref ao] B0 := fun t kt => st414 t (by
  refine XS.aloadN X395.here hx rfl (hb hby d3_154) rfl rfl ?_
  exact kt)
 obtain ⟨T416, X416, e416, ls416⟩ := getF X395 hx hZ hown (host := "") (Or.inl (own_w hw 25 rfl)) Via.refl e395 f399 (g := (mkF m 155 #[rv ao, rv ae, iv (Int32.ofNat ev), iv 2, rv bf, iv ((0 : Int32) + (2 : Int32)), iv k2] [.ref ao])) rfl rfl (hb hby d3_155)
 have st417 := fun t kt => st415 t (ls416 t kt)
 have st418 : own_K p e below T416 m 159 #[rv ao, rv ae, iv (Int32.ofNat ev), iv 2, rv bf, iv ((0 : Int32) + (2 : Int32)), iv k2] [.ref ao, .ref bc] B0 := fun t kt => st417 t (by
  refine XS.aloadN X416.here hx rfl (hb hby d3_158) rfl rfl ?_
  exact kt)
 obtain ⟨T419, X419, e419, ls419⟩ := getF X416 hx hZ hown (host := "") (Or.inl (own_w hw 45 rfl)) Via.refl e416 f403 (g := (mkF m 159 #[rv ao, rv ae, iv (Int32.ofNat ev), iv 2, rv bf, iv ((0 : Int32) + (2 : Int32)), iv k2] [.ref ao, .ref bc])) rfl rfl (hb hby d3_159)
 have st420 := fun t kt => st418 t (ls419 t kt)
 have st421 : own_K p e below T419 m 170 #[rv ao, rv ae, iv (Int32.ofNat ev), iv 2, rv bf, iv ((0 : Int32) + (2 : Int32)), iv k2] [(.int ((0 : Int32) + (2 : Int32))), .ref ae, (.int ((Int32.ofNat 1) <<< ((6 : Int32) &&& 31))), .ref bc] B0 := fun t kt => st420 t (by
  refine XS.iconst X419.here hx rfl (hb hby d3_162) ?_
  refine XS.isub X419.here hx rfl (hb hby d3_163) rfl ?_
  show own_At p e below T419 m 164 #[rv ao, rv ae, iv (Int32.ofNat ev), iv 2, rv bf, iv ((0 : Int32) + (2 : Int32)), iv k2] [(.int ((2 : Int32) - (1 : Int32))), .ref bc] _
  rw [show ((2 : Int32) - (1 : Int32)) = (Int32.ofNat 1) from (by decide +kernel)]
  refine XS.bipush X419.here hx rfl (hb hby d3_164) ?_
  refine XS.ishl X419.here hx rfl (hb hby d3_166) rfl ?_
  refine XS.aloadN X419.here hx rfl (hb hby d3_167) rfl rfl ?_
  refine XS.iload X419.here hx rfl (hb hby d3_168) rfl ?_
  exact kt)
 have ls422 := own_iaload X419 hx hZ e419 f406 (j := ((0 : Int32) + (2 : Int32))) (i := 2) (by decide) (by decide) (by decide) (v := (.int v2)) (hv1) (g := (mkF m 170 #[rv ao, rv ae, iv (Int32.ofNat ev), iv 2, rv bf, iv ((0 : Int32) + (2 : Int32)), iv k2] [(.int ((0 : Int32) + (2 : Int32))), .ref ae, (.int ((Int32.ofNat 1) <<< ((6 : Int32) &&& 31))), .ref bc])) rfl rfl (hb hby d3_170)
 have st423 := fun t kt => st421 t (ls422 t kt)
 have st424 : own_K p e below T419 m 180 #[rv ao, rv ae, iv (Int32.ofNat ev), iv 2, rv bf, iv ((0 : Int32) + (2 : Int32)), iv k2] [(.int (((0 : Int32) + (2 : Int32)) + (1 : Int32))), .ref ae, (.int (Int32.ofNat (64 * 1 + own_pl v2))), .ref bc] B0 := fun t kt => st423 t (by
  refine XS.bipush X419.here hx rfl (hb hby d3_171) ?_
  refine XS.iand X419.here hx rfl (hb hby d3_173) rfl ?_
  refine XS.ior X419.here hx rfl (hb hby d3_174) rfl ?_
  show own_At p e below T419 m 175 #[rv ao, rv ae, iv (Int32.ofNat ev), iv 2, rv bf, iv ((0 : Int32) + (2 : Int32)), iv k2] [(.int (((Int32.ofNat 1) <<< ((6 : Int32) &&& 31)) ||| (v2 &&& (63 : Int32)))), .ref bc] _
  rw [show (((Int32.ofNat 1) <<< ((6 : Int32) &&& 31)) ||| (v2 &&& (63 : Int32))) = (Int32.ofNat (64 * 1 + own_pl v2)) from (own_idx6 1 v2 (by decide))]
  refine XS.aloadN X419.here hx rfl (hb hby d3_175) rfl rfl ?_
  refine XS.iload X419.here hx rfl (hb hby d3_176) rfl ?_
  refine XS.iconst X419.here hx rfl (hb hby d3_178) ?_
  refine XS.iadd X419.here hx rfl (hb hby d3_179) rfl ?_
  exact kt)
 have ls425 := own_iaload X419 hx hZ e419 f406 (j := (((0 : Int32) + (2 : Int32)) + (1 : Int32))) (i := 3) (by decide) (by decide) (by decide) (v := (.int c2)) (hc1) (g := (mkF m 180 #[rv ao, rv ae, iv (Int32.ofNat ev), iv 2, rv bf, iv ((0 : Int32) + (2 : Int32)), iv k2] [(.int (((0 : Int32) + (2 : Int32)) + (1 : Int32))), .ref ae, (.int (Int32.ofNat (64 * 1 + own_pl v2))), .ref bc])) rfl rfl (hb hby d3_180)
 have st426 := fun t kt => st424 t (ls425 t kt)
 have pl1 := own_pl_lt v2
 have xx1 := own_nat32 (show (64 * 1 + own_pl v2) < 2 ^ 31 by omega)
 obtain ⟨T428, h428, X428, e428, W428, B428, ls428⟩ := own_iastore X419 hx hZ e419 f409 (j := (Int32.ofNat (64 * 1 + own_pl v2))) (i := (64 * 1 + own_pl v2)) (xx1.2) (xx1.1) (by omega) (g := (mkF m 181 #[rv ao, rv ae, iv (Int32.ofNat ev), iv 2, rv bf, iv ((0 : Int32) + (2 : Int32)), iv k2] [.int c2, (.int (Int32.ofNat (64 * 1 + own_pl v2))), .ref bc])) rfl rfl (hb hby d3_181)
 have N428 := Fr.snoc X428 N395 g_bc
 have f429 := f396.other W428 (Or.inl ne_ao_bc)
 have f430 := f397.other W428 (Or.inl ne_ao_bc)
 have f431 := f398.other W428 (Or.inl ne_ao_bc)
 have f432 := f399.other W428 (Or.inl ne_ao_bc)
 have f433 := f400.other W428 (Or.inl ne_ao_bc)
 have f434 := f401.other W428 (Or.inl ne_ao_bc)
 have f435 := f402.other W428 (Or.inl ne_ao_bc)
 have f436 := f403.other W428 (Or.inl ne_ao_bc)
 have f437 := f404.other W428 (Or.inl ne_ao_bc)
 have f438 := f405.wr W428
 have f439 := f406.other W428 ne_ae_bc
 have f440 := f407.wr W428 g_bc
 have f441 := f408.wr W428
 have f442 := f410.other W428 (Ne.symm ne_bc_bf)
 have f443 := f411.other W428 ne_bk_bc
 have f444 := f412.other W428 ne_bl_bc
 have z445 := Nat.le_trans z413 (Keep.of_wr W428).1
 have f446 := B428
 have st447 := fun t kt => st426 t (ls428 t kt)
 have st448 : own_K p e below T428 m 185 #[rv ao, rv ae, iv (Int32.ofNat ev), iv 2, rv bf, iv ((0 : Int32) + (2 : Int32)), iv k2] [.ref ao, .ref bf] B0 := fun t kt => st447 t (by
  refine XS.aload X428.here hx rfl (hb hby d3_182) rfl rfl ?_
  refine XS.aloadN X428.here hx rfl (hb hby d3_184) rfl rfl ?_
  exact kt)
 obtain ⟨T449, X449, e449, ls449⟩ := getF X428 hx hZ hown (host := "") (Or.inl (own_w hw 45 rfl)) Via.refl e428 f436 (g := (mkF m 185 #[rv ao, rv ae, iv (Int32.ofNat ev), iv 2, rv bf, iv ((0 : Int32) + (2 : Int32)), iv k2] [.ref ao, .ref bf])) rfl rfl (hb hby d3_185)
 have st450 := fun t kt => st448 t (ls449 t kt)
 have st451 : own_K p e below T449 m 191 #[rv ao, rv ae, iv (Int32.ofNat ev), iv 2, rv bf, iv ((0 : Int32) + (2 : Int32)), iv k2] [.int 1, .ref bf, .int 1, .ref bf] B0 := fun t kt => st450 t (by
  refine XS.iconst X449.here hx rfl (hb hby d3_188) ?_
  refine XS.isub X449.here hx rfl (hb hby d3_189) rfl ?_
  show own_At p e below T449 m 190 #[rv ao, rv ae, iv (Int32.ofNat ev), iv 2, rv bf, iv ((0 : Int32) + (2 : Int32)), iv k2] [(.int ((2 : Int32) - (1 : Int32))), .ref bf] _
  rw [show ((2 : Int32) - (1 : Int32)) = (1 : Int32) from (by decide +kernel)]
  show own_At p e below T449 m 190 #[rv ao, rv ae, iv (Int32.ofNat ev), iv 2, rv bf, iv ((0 : Int32) + (2 : Int32)), iv k2] [.int 1, .ref bf] _
  jvm_step X449.here [X449.here.top, hx, (hb hby d3_190), Value.category]
  exact kt)
 have ls452 := own_laload X449 hx hZ e449 f442 (j := (1 : Int32)) (i := 1) (by decide) (by decide) (by decide) (v := (.long (0 : Int64))) (rfl) (g := (mkF m 191 #[rv ao, rv ae, iv (Int32.ofNat ev), iv 2, rv bf, iv ((0 : Int32) + (2 : Int32)), iv k2] [.int 1, .ref bf, .int 1, .ref bf])) rfl rfl (hb hby d3_191)
 have st453 := fun t kt => st451 t (ls452 t kt)
 have st454 : own_K p e below T449 m 196 #[rv ao, rv ae, iv (Int32.ofNat ev), iv 2, rv bf, iv ((0 : Int32) + (2 : Int32)), iv k2] [(.int ((0 : Int32) + (2 : Int32))), .ref ae, .long (1 : Int64), .long (0 : Int64), .int 1, .ref bf] B0 := fun t kt => st453 t (by
  refine XS.lconst X449.here hx rfl (hb hby d3_192) ?_
  refine XS.aloadN X449.here hx rfl (hb hby d3_193) rfl rfl ?_
  refine XS.iload X449.here hx rfl (hb hby d3_194) rfl ?_
  exact kt)
 have ls455 := own_iaload X449 hx hZ e449 f439 (j := ((0 : Int32) + (2 : Int32))) (i := 2) (by decide) (by decide) (by decide) (v := (.int v2)) (hv1) (g := (mkF m 196 #[rv ao, rv ae, iv (Int32.ofNat ev), iv 2, rv bf, iv ((0 : Int32) + (2 : Int32)), iv k2] [(.int ((0 : Int32) + (2 : Int32))), .ref ae, .long (1 : Int64), .long (0 : Int64), .int 1, .ref bf])) rfl rfl (hb hby d3_196)
 have st456 := fun t kt => st454 t (ls455 t kt)
 obtain ⟨x_f1, h_x_f1⟩ : ∃ z : Int64, z = ((0 : Int64) ||| ((1 : Int64) <<< ((v2 &&& (63 : Int32)) &&& 0x3f).toInt64)) := ⟨_, rfl⟩
 have st457 : own_K p e below T449 m 202 #[rv ao, rv ae, iv (Int32.ofNat ev), iv 2, rv bf, iv ((0 : Int32) + (2 : Int32)), iv k2] [.long x_f1, .int 1, .ref bf] B0 := fun t kt => st456 t (by
  refine XS.bipush X449.here hx rfl (hb hby d3_197) ?_
  refine XS.iand X449.here hx rfl (hb hby d3_199) rfl ?_
  refine XS.lshl X449.here hx rfl (hb hby d3_200) rfl ?_
  refine XS.lor X449.here hx rfl (hb hby d3_201) rfl ?_
  show own_At p e below T449 m 202 #[rv ao, rv ae, iv (Int32.ofNat ev), iv 2, rv bf, iv ((0 : Int32) + (2 : Int32)), iv k2] [(.long ((0 : Int64) ||| ((1 : Int64) <<< ((v2 &&& (63 : Int32)) &&& 0x3f).toInt64))), .int 1, .ref bf] _
  rw [← h_x_f1]
  exact kt)
 obtain ⟨T458, h458, X458, e458, W458, B458, ls458⟩ := own_lastore X449 hx hZ e449 f442 (j := (1 : Int32)) (i := 1) (by decide) (by decide) (by decide) (g := (mkF m 202 #[rv ao, rv ae, iv (Int32.ofNat ev), iv 2, rv bf, iv ((0 : Int32) + (2 : Int32)), iv k2] [.long x_f1, .int 1, .ref bf])) rfl rfl (hb hby d3_202)
 have N458 := Fr.snoc X458 N428 g_bf
 have f459 := f429.other W458 (Or.inl ne_ao_bf)
 have f460 := f430.other W458 (Or.inl ne_ao_bf)
 have f461 := f431.other W458 (Or.inl ne_ao_bf)
 have f462 := f432.other W458 (Or.inl ne_ao_bf)
 have f463 := f433.other W458 (Or.inl ne_ao_bf)
 have f464 := f434.other W458 (Or.inl ne_ao_bf)
 have f465 := f435.other W458 (Or.inl ne_ao_bf)
 have f466 := f436.other W458 (Or.inl ne_ao_bf)
 have f467 := f437.other W458 (Or.inl ne_ao_bf)
 have f468 := f438.wr W458
 have f469 := f439.other W458 ne_ae_bf
 have f470 := f440.wr W458 g_bf
 have f471 := f441.wr W458
 have f472 := f443.other W458 ne_bk_bf
 have f473 := f444.other W458 ne_bl_bf
 have f474 := f446.other W458 ne_bc_bf
 have z475 := Nat.le_trans z445 (Keep.of_wr W458).1
 have f476 := B458
 have st477 := fun t kt => st457 t (ls458 t kt)
 have st478 : own_K p e below T458 m 84 #[rv ao, rv ae, iv (Int32.ofNat ev), iv 2, rv bf, iv (((0 : Int32) + (2 : Int32)) + (2 : Int32)), iv k2] [.ref ae, (.int (((0 : Int32) + (2 : Int32)) + (2 : Int32)))] B0 := fun t kt => st477 t (by
  refine XS.iinc X458.here hx rfl (hb hby d3_203) rfl (l' := #[rv ao, rv ae, iv (Int32.ofNat ev), iv 2, rv bf, iv (((0 : Int32) + (2 : Int32)) + (2 : Int32)), iv k2]) rfl ?_
  refine XS.goto X458.here hx rfl (pc0 := 206) (pc' := 81) rfl (hb hby d3_206) (by decide) (by decide) ?_
  refine XS.iload X458.here hx rfl (hb hby d3_81) rfl ?_
  refine XS.aloadN X458.here hx rfl (hb hby d3_83) rfl rfl ?_
  exact kt)
 have ls479 := own_alen X458 hx hZ e458 f469 (g := (mkF m 84 #[rv ao, rv ae, iv (Int32.ofNat ev), iv 2, rv bf, iv (((0 : Int32) + (2 : Int32)) + (2 : Int32)), iv k2] [.ref ae, (.int (((0 : Int32) + (2 : Int32)) + (2 : Int32)))])) rfl rfl (hb hby d3_84)
 have st480 := fun t kt => st478 t (ls479 t kt)
 have hc481 : ¬ ((((0 : Int32) + (2 : Int32)) + (2 : Int32)) < (4 : Int32)) := by decide
 have st482 : own_K p e below T458 m 211 #[rv ao, rv ae, iv (Int32.ofNat ev), iv 2, rv bf, iv (((0 : Int32) + (2 : Int32)) + (2 : Int32)), iv k2] [.ref ae, .ref ao] B0 := fun t kt => st480 t (by
  refine XS.icmpYes X458.here hx rfl (pc0 := 85) (pc' := 209) rfl (hb hby d3_85) rfl (flt hc481).2.1 (by decide) (by decide) ?_
  refine XS.aloadN X458.here hx rfl (hb hby d3_209) rfl rfl ?_
  refine XS.aloadN X458.here hx rfl (hb hby d3_210) rfl rfl ?_
  exact kt)
 have ls483 := own_alen X458 hx hZ e458 f469 (g := (mkF m 211 #[rv ao, rv ae, iv (Int32.ofNat ev), iv 2, rv bf, iv (((0 : Int32) + (2 : Int32)) + (2 : Int32)), iv k2] [.ref ae, .ref ao])) rfl rfl (hb hby d3_211)
 have st484 := fun t kt => st482 t (ls483 t kt)
 have st485 : own_K p e below T458 m 214 #[rv ao, rv ae, iv (Int32.ofNat ev), iv 2, rv bf, iv (((0 : Int32) + (2 : Int32)) + (2 : Int32)), iv k2] [.int 2, .ref ao] B0 := fun t kt => st484 t (by
  refine XS.iconst X458.here hx rfl (hb hby d3_212) ?_
  refine XS.idiv X458.here hx rfl (hb hby d3_213) rfl (by decide) ?_
  show own_At p e below T458 m 214 #[rv ao, rv ae, iv (Int32.ofNat ev), iv 2, rv bf, iv (((0 : Int32) + (2 : Int32)) + (2 : Int32)), iv k2] [(.int ((4 : Int32) / (2 : Int32))), .ref ao] _
  rw [show ((4 : Int32) / (2 : Int32)) = (2 : Int32) from (by decide +kernel)]
  exact kt)
 obtain ⟨T486, h486, X486, e486, W486, ls486⟩ := putF X458 hx hZ hown (host := "") (Or.inl (own_w hw 28 rfl)) Via.refl e458 f463 f468 (Or.inl (own_w hw 29 rfl)) (own_w hw 11 rfl) (ty := .int) (by decide) rfl rfl (g := (mkF m 214 #[rv ao, rv ae, iv (Int32.ofNat ev), iv 2, rv bf, iv (((0 : Int32) + (2 : Int32)) + (2 : Int32)), iv k2] [.int 2, .ref ao])) rfl rfl (hb hby d3_214)
 have N486 := Fr.snoc X486 N458 g_ao
 have f487 := f459.other W486 (Or.inr (own_s20_29 hw))
 have f488 := f460.other W486 (Or.inr (own_s22_29 hw))
 have f489 := f461.other W486 (Or.inr (own_s24_29 hw))
 have f490 := f462.other W486 (Or.inr (own_s26_29 hw))
 have f491 := f463.same W486
 have f492 := f464.other W486 (Or.inr (own_s33_29 hw))
 have f493 := f465.other W486 (Or.inr (own_s35_29 hw))
 have f494 := f466.other W486 (Or.inr (own_s46_29 hw))
 have f495 := f467.other W486 (Or.inr (own_s66_29 hw))
 have f496 := f468.wr W486
 have f497 := f469.other W486 (Ne.symm ne_ao_ae)
 have f498 := f470.wr W486 g_ao
 have f499 := f471.wr W486
 have f500 := f472.other W486 (Ne.symm ne_ao_bk)
 have f501 := f473.other W486 (Ne.symm ne_ao_bl)
 have f502 := f474.other W486 (Ne.symm ne_ao_bc)
 have f503 := f476.other W486 (Ne.symm ne_ao_bf)
 have z504 := Nat.le_trans z475 (Keep.of_wr W486).1
 have st505 := fun t kt => st485 t (ls486 t kt)
 have vv := own_nat32 (show ev < 2 ^ 31 by omega)
 have st506 : own_K p e below T486 m 219 #[rv ao, rv ae, iv (Int32.ofNat ev), iv 2, rv bf, iv (((0 : Int32) + (2 : Int32)) + (2 : Int32)), iv k2] [.int (Int32.ofNat ev), .ref ao] B0 := fun t kt => st505 t (by
  refine XS.aloadN X486.here hx rfl (hb hby d3_217) rfl rfl ?_
  refine XS.iloadN X486.here hx rfl (hb hby d3_218) rfl ?_
  exact kt)
 obtain ⟨T507, h507, c507, X507, e507, E507, A507, B507, O507, ls507⟩ := newRA X486 hx hZ hown (C := "[J") (ty := .long) (by decide) (own_w hw 30 rfl) (own_w hw 31 rfl) e486 (g := (mkF m 219 #[rv ao, rv ae, iv (Int32.ofNat ev), iv 2, rv bf, iv (((0 : Int32) + (2 : Int32)) + (2 : Int32)), iv k2] [.int (Int32.ofNat ev), .ref ao])) rfl (hb hby d3_219) rfl (vv.2) (cap := 3) (by rw [vv.1]; exact hev) (by decide) (by decide) (by decide) (ad := "[[J") (by decide)
 obtain ⟨bp, g507⟩ : ∃ z, z = h486.size := ⟨_, rfl⟩
 rw [← g507] at A507 B507 ls507
 have ne_ao_bp : ao ≠ bp := Nat.ne_of_lt (Nat.lt_of_lt_of_le f487.lt (Nat.le_of_eq g507.symm))
 have ne_ae_bp : ae ≠ bp := Nat.ne_of_lt (Nat.lt_of_lt_of_le f497.lt (Nat.le_of_eq g507.symm))
 have ne_bf_bp : bf ≠ bp := Nat.ne_of_lt (Nat.lt_of_lt_of_le f499.lt (Nat.le_of_eq g507.symm))
 have ne_bk_bp : bk ≠ bp := Nat.ne_of_lt (Nat.lt_of_lt_of_le f500.lt (Nat.le_of_eq g507.symm))
 have ne_bl_bp : bl ≠ bp := Nat.ne_of_lt (Nat.lt_of_lt_of_le f501.lt (Nat.le_of_eq g507.symm))
 have ne_bc_bp : bc ≠ bp := Nat.ne_of_lt (Nat.lt_of_lt_of_le f502.lt (Nat.le_of_eq g507.symm))
 have g_bp : n0 ≤ bp := Nat.le_trans z504 (Nat.le_of_eq g507.symm)
 have f508 := f487.ext E507
 have f509 := f488.ext E507
 have f510 := f489.ext E507
 have f511 := f490.ext E507
 have f512 := f491.ext E507
 have f513 := f492.ext E507
 have f514 := f493.ext E507
 have f515 := f494.ext E507
 have f516 := f495.ext E507
 have f517 := f496.ext E507
 have f518 := f497.ext E507
 have f519 := f498.ext E507
 have f520 := f499.ext E507
 have f521 := f500.ext E507
 have f522 := f501.ext E507
 have f523 := f502.ext E507
 have f524 := f503.ext E507
 have z525 := Nat.le_trans z504 E507.1
 have f526 : own_Ra Z h507 bp .long "[J" ev (fun _ => .null) := own_Ra.new A507 O507 (vv.2) (vv.1)
 have st527 := fun t kt => st506 t (ls507 t kt)
 obtain ⟨T528, h528, X528, e528, W528, ls528⟩ := putF X507 hx hZ hown (host := "") (Or.inl (own_w hw 32 rfl)) Via.refl e507 f513 f517 (Or.inr ⟨(own_w hw 33 rfl), rfl, hnm⟩) (own_w hw 11 rfl) (ty := (.array (.array .long))) (by decide) rfl rfl (g := (mkF m 222 #[rv ao, rv ae, iv (Int32.ofNat ev), iv 2, rv bf, iv (((0 : Int32) + (2 : Int32)) + (2 : Int32)), iv k2] [.ref bp, .ref ao])) rfl rfl (hb hby d3_222)
 have N528 := Fr.snoc X528 N486 g_ao
 have f529 := f508.other W528 (Or.inr (own_s20_33 hw))
 have f530 := f509.other W528 (Or.inr (own_s22_33 hw))
 have f531 := f510.other W528 (Or.inr (own_s24_33 hw))
 have f532 := f511.other W528 (Or.inr (own_s26_33 hw))
 have f533 := f512.other W528 (Or.inr (own_s29_33 hw))
 have f534 := f513.same W528
 have f535 := f514.other W528 (Or.inr (own_s35_33 hw))
 have f536 := f515.other W528 (Or.inr (own_s46_33 hw))
 have f537 := f516.other W528 (Or.inr (own_s66_33 hw))
 have f538 := f517.wr W528
 have f539 := f518.other W528 (Ne.symm ne_ao_ae)
 have f540 := f519.wr W528 g_ao
 have f541 := f520.wr W528
 have f542 := f521.other W528 (Ne.symm ne_ao_bk)
 have f543 := f522.other W528 (Ne.symm ne_ao_bl)
 have f544 := f523.other W528 (Ne.symm ne_ao_bc)
 have f545 := f524.other W528 (Ne.symm ne_ao_bf)
 have f546 := f526.other W528 (Ne.symm ne_ao_bp)
 have z547 := Nat.le_trans z525 (Keep.of_wr W528).1
 have st548 := fun t kt => st527 t (ls528 t kt)
 have st549 : own_K p e below T528 m 227 #[rv ao, rv ae, iv (Int32.ofNat ev), iv 2, rv bf, iv (((0 : Int32) + (2 : Int32)) + (2 : Int32)), iv k2] [.int (Int32.ofNat ev), .ref ao] B0 := fun t kt => st548 t (by
  refine XS.aloadN X528.here hx rfl (hb hby d3_225) rfl rfl ?_
  refine XS.iloadN X528.here hx rfl (hb hby d3_226) rfl ?_
  exact kt)
 obtain ⟨T550, h550, c550, X550, e550, E550, A550, ls550⟩ := newP X528 hx hZ (own_w hw 6 rfl) e528 (g := (mkF m 227 #[rv ao, rv ae, iv (Int32.ofNat ev), iv 2, rv bf, iv (((0 : Int32) + (2 : Int32)) + (2 : Int32)), iv k2] [.int (Int32.ofNat ev), .ref ao])) rfl (hb hby d3_227) rfl (vv.2) (cap := 3) (by rw [vv.1]; exact hev) (by decide) (by decide) (by decide)
 obtain ⟨bq, g550⟩ : ∃ z, z = h528.size := ⟨_, rfl⟩
 rw [← g550] at A550 ls550
 have ne_ao_bq : ao ≠ bq := Nat.ne_of_lt (Nat.lt_of_lt_of_le f529.lt (Nat.le_of_eq g550.symm))
 have ne_ae_bq : ae ≠ bq := Nat.ne_of_lt (Nat.lt_of_lt_of_le f539.lt (Nat.le_of_eq g550.symm))
 have ne_bf_bq : bf ≠ bq := Nat.ne_of_lt (Nat.lt_of_lt_of_le f541.lt (Nat.le_of_eq g550.symm))
 have ne_bk_bq : bk ≠ bq := Nat.ne_of_lt (Nat.lt_of_lt_of_le f542.lt (Nat.le_of_eq g550.symm))
 have ne_bl_bq : bl ≠ bq := Nat.ne_of_lt (Nat.lt_of_lt_of_le f543.lt (Nat.le_of_eq g550.symm))
 have ne_bc_bq : bc ≠ bq := Nat.ne_of_lt (Nat.lt_of_lt_of_le f544.lt (Nat.le_of_eq g550.symm))
 have ne_bp_bq : bp ≠ bq := Nat.ne_of_lt (Nat.lt_of_lt_of_le f546.lt (Nat.le_of_eq g550.symm))
 have g_bq : n0 ≤ bq := Nat.le_trans z547 (Nat.le_of_eq g550.symm)
 have f551 := f529.ext E550
 have f552 := f530.ext E550
 have f553 := f531.ext E550
 have f554 := f532.ext E550
 have f555 := f533.ext E550
 have f556 := f534.ext E550
 have f557 := f535.ext E550
 have f558 := f536.ext E550
 have f559 := f537.ext E550
 have f560 := f538.ext E550
 have f562 := f540.ext E550
 have f563 := f541.ext E550
 have f564 := f542.ext E550
 have f565 := f543.ext E550
 have f566 := f544.ext E550
 have f567 := f545.ext E550
 have f568 := f546.ext E550
 have z569 := Nat.le_trans z547 E550.1
 have f570 : own_Av Z h550 bq .int ev (fun _ => (.int 0)) := own_Av.new A550 (vv.2) (vv.1)
 have st571 := fun t kt => st549 t (ls550 t kt)
 obtain ⟨T572, h572, X572, e572, W572, ls572⟩ := putF X550 hx hZ hown (host := "") (Or.inl (own_w hw 34 rfl)) Via.refl e550 f557 f560 (Or.inr ⟨(own_w hw 35 rfl), rfl, hnm⟩) (own_w hw 11 rfl) (ty := (.array .int)) (by decide) rfl rfl (g := (mkF m 229 #[rv ao, rv ae, iv (Int32.ofNat ev), iv 2, rv bf, iv (((0 : Int32) + (2 : Int32)) + (2 : Int32)), iv k2] [.ref bq, .ref ao])) rfl rfl (hb hby d3_229)
 have N572 := Fr.snoc X572 N528 g_ao
 have f573 := f551.other W572 (Or.inr (own_s20_35 hw))
 have f574 := f552.other W572 (Or.inr (own_s22_35 hw))
 have f575 := f553.other W572 (Or.inr (own_s24_35 hw))
 have f576 := f554.other W572 (Or.inr (own_s26_35 hw))
 have f577 := f555.other W572 (Or.inr (own_s29_35 hw))
 have f578 := f556.other W572 (Or.inr (own_s33_35 hw))
 have f579 := f557.same W572
 have f580 := f558.other W572 (Or.inr (own_s46_35 hw))
 have f581 := f559.other W572 (Or.inr (own_s66_35 hw))
 have f582 := f560.wr W572
 have f584 := f562.wr W572 g_ao
 have f585 := f563.wr W572
 have f586 := f564.other W572 (Ne.symm ne_ao_bk)
 have f587 := f565.other W572 (Ne.symm ne_ao_bl)
 have f588 := f566.other W572 (Ne.symm ne_ao_bc)
 have f589 := f567.other W572 (Ne.symm ne_ao_bf)
 have f590 := f568.other W572 (Ne.symm ne_ao_bp)
 have f591 := f570.other W572 (Ne.symm ne_ao_bq)
 have z592 := Nat.le_trans z569 (Keep.of_wr W572).1
 have st593 := fun t kt => st571 t (ls572 t kt)
 have st594 : own_K p e below T572 m 235 #[rv ao, rv ae, iv (Int32.ofNat ev), iv 2, rv bf, iv (Int32.ofNat 0), iv k2] [] B0 := fun t kt => st593 t (by
  refine XS.iconst X572.here hx rfl (hb hby d3_232) ?_
  refine XS.istore X572.here hx rfl (hb hby d3_233) rfl (l' := #[rv ao, rv ae, iv (Int32.ofNat ev), iv 2, rv bf, iv 0, iv k2]) rfl ?_
  show own_At p e below T572 m 235 #[rv ao, rv ae, iv (Int32.ofNat ev), iv 2, rv bf, iv 0, iv k2] [] _
  rw [show (0 : Int32) = (Int32.ofNat 0) from (rfl)]
  exact kt)
 have f_bf := f589.congr (g := fun q => .long ((fun q => if q = 1 then x_f1 else if q = 0 then x_f0 else 0) q)) (fun q hq => match q, hq with | 0, _ => rfl | 1, _ => rfl | _ + 2, z => absurd z (by omega))
 obtain ⟨T595, L595, h595, X595, e595, N595, Z595, ⟨Sm595, Pd595⟩, ls595⟩ := own_loopC ev 2 (fun q => if q = 1 then x_f1 else if q = 0 then x_f0 else 0) ao ae bf bp bq (2 : Int32) (2 : Int32) (iv k2) 9 152 hx hZ hw hby hml hown hev (by decide) ne_ao_bp ne_ao_bq ne_bp_bq ne_bf_bp ne_bf_bq ne_ao_bf g_bp g_bq (by decide) (by decide) (by decide) (by decide) ev 0 (Nat.zero_add _) 6 140 _ _ _ X572 e572 N572 z592 ⟨f582, f578, f579, f577, f585, f_bf, by omega, by omega, ⟨fun _ => 0, f590.congr (fun q hq => (if_neg (Nat.not_lt_zero q)).symm), fun q hq => absurd hq (Nat.not_lt_zero q)⟩, fun _ => 0, f591⟩
 have np_ao : ¬ (ao = bp ∨ ao = bq) := fun z => z.elim ne_ao_bp ne_ao_bq
 have np_ae : ¬ (ae = bp ∨ ae = bq) := fun z => z.elim ne_ae_bp ne_ae_bq
 have np_bk : ¬ (bk = bp ∨ bk = bq) := fun z => z.elim ne_bk_bp ne_bk_bq
 have np_bl : ¬ (bl = bp ∨ bl = bq) := fun z => z.elim ne_bl_bp ne_bl_bq
 have np_bc : ¬ (bc = bp ∨ bc = bq) := fun z => z.elim ne_bc_bp ne_bc_bq
 have np_bf : ¬ (bf = bp ∨ bf = bq) := fun z => z.elim ne_bf_bp ne_bf_bq
 have f596 := own_FldSm f573 Sm595 (np_ao)
 have f597 := own_FldSm f574 Sm595 (np_ao)
 have f598 := own_FldSm f575 Sm595 (np_ao)
 have f599 := own_FldSm f576 Sm595 (np_ao)
 have f600 := own_FldSm f577 Sm595 (np_ao)
 have f601 := own_FldSm f578 Sm595 (np_ao)
 have f602 := own_FldSm f579 Sm595 (np_ao)
 have f603 := own_FldSm f580 Sm595 (np_ao)
 have f604 := own_FldSm f581 Sm595 (np_ao)
 have f605 := own_ExaSm f582 Sm595 (np_ao)
 have f607 := f584.trans (own_Sm.mono Sm595 (fun x hx => hx.elim (fun e => e ▸ g_bp) fun e => e ▸ g_bq))
 have f609 := f586.sm Sm595 (np_bk)
 have f610 := f587.sm Sm595 (np_bl)
 have f611 := f588.sm Sm595 (np_bc)
 have st613 := fun t kt => st594 t (ls595 t kt)
 obtain ⟨fs, hr, hrun, hended, hW, hsame⟩ := X595.leave (v := none) (fun _ => rfl)
 subst hB0
 refine ⟨_, _, st613 _ ?_, hrun, hended, _, _, rfl, ?_, ⟨_, rfl⟩, hW, hsame.mono (by decide) (by decide)⟩
 ·exact X595.returnOut hx Bd.returns (hb hby d3_273) hr
 ·show Q_rm_in2d Z ao ae ev fe v1 c1 v2 c2 h0 n0 _ T595.heap _
  rw [e595]
  exact ⟨rfl, N595, Z595, f607, f605, f603, f600, f596, ⟨_, f604⟩, bk, bl, bc, bp, bq, by
   intro x hx
   simp only [List.mem_cons, List.not_mem_nil, or_false] at hx
   rcases hx with rfl | rfl | rfl | rfl | rfl | rfl
   ·exact g_ao
   ·exact g_bk
   ·exact g_bl
   ·exact g_bc
   ·exact g_bp
   ·exact g_bq, by simp [ne_ao_bk, ne_ao_bl, ne_ao_bc, ne_ao_bp, ne_ao_bq, ne_bk_bl, ne_bk_bc, ne_bk_bp, ne_bk_bq, ne_bl_bc, ne_bl_bp, ne_bl_bq, ne_bc_bp, ne_bc_bq, ne_bp_bq], f597, f598, f599, f601, f602, f609.congr (fun q hq => match q, hq with | 0, _ => congrArg Value.int h_k1 | 1, _ => congrArg Value.int h_k2 | _ + 2, z => absurd z (by omega)), f610.congr (fun q hq => match q, hq with | 0, _ => rfl | 1, _ => rfl | _ + 2, z => absurd z (by omega)), f611.congr (fun q hq => by first | rfl | (simp only [Nat.mul_zero, Nat.zero_add, Nat.mul_one]; (repeat' split) <;> rfl)), Pd595⟩
def Q_rm_nz (Z : State) (ux : Int32) (h0 : Heap) (n0 : Nat) (v : Option Value) (h : Heap) (L : List Loc) : Prop := v = some (.int (own_nz ux)) ∧ Fr n0 L ∧ h = h0
set_option maxRecDepth 65536 in
set_option maxHeartbeats 40000000 in
theorem rm_nz (l : Launch) (Z : State) (a0 : Array Value) (hw : ∀ d ∈ tables_1, d.before a0 Z = true) (ws : List Jvm.Cond) (ux : Int32) (h0 : Heap) (n0 : Nat) (Z0 : n0 ≤ h0.size) :
  MetFree l (⟨"com/example/saturation/saturation/OpenNodeEdgesPinLaw", "nz", "(I)I"⟩ : MethodName) (head1 (Jvm.Cond.code (⟨"com/example/saturation/saturation/OpenNodeEdgesPinLaw", "nz", "(I)I"⟩ : MethodName) method_2_code 1 (some .int) :: ws) ({ frames := 0, cells := 0, slots := 0, locals := 0 } : Room)) (fun a U => a = #[.int ux] ∧ Z.Warmed39 U.vm ∧ U.heap = h0) (fun _ _ _ _ _ => True) (fun _ U o U' => ∃ v L, o = .returned v ∧ Q_rm_nz Z ux h0 n0 v U'.heap L ∧ FrameEnd U o U' L ({ frames := 0, cells := 0, slots := 0, locals := 0 } : Room).cells ({ frames := 0, cells := 0, slots := 0, locals := 0 } : Room).slots) := by
 refine MetFree.of_bodySF (plainFor_of_name own_pn2) hisR ?_
 intro p e s m args below meth c s₁ Bd hml0 hP hK
 obtain ⟨rfl, hZ, hh⟩ := hP
 have hx := Bd.exec
 have hby := Bd.bytes
 have hml : c.maxLocals = 1 := hml0
 have hown : s.vm.findClass "com/example/saturation/saturation/OpenNodeEdgesPinLaw" = some m.cls := findClass_of_methodNamed Bd.named
 have hnm := (name_of_methodNamed Bd.named Bd.method).1
 have X0 : Stand p l e ({ frames := 0, cells := 0, slots := 0, locals := 0 } : Room) s m #[.int ux] below meth c s₁ [] 0 0 := Stand.of_body Bd
 have e0 : s₁.heap = h0 := by rw [← hh, Bd.state]; rfl
 have N0 := Fr.nil n0
 obtain ⟨B0, hB0⟩ : ∃ B, B = (s₁.setTop (entryFrame m #[.int ux] 1)) := ⟨_, rfl⟩
 have st0 : own_K p e below s₁ m 0 #[iv ux] [] B0 := fun t kk0 => hB0 ▸ castTop (own_ef1_I m ux) kk0
 have st1 : own_K p e below s₁ m 1 #[iv ux] [.int ux] B0 := fun t kt => st0 t (by
  refine XS.iloadN X0.here hx rfl (hb hby d1_0) rfl ?_
  exact kt)
 by_cases q1 : ux = (0 : Int32)
 ·have st2 : own_K p e below s₁ m 9 #[iv ux] [.int 1] B0 := fun t kt => st1 t (by
   refine XS.ifNo X0.here hx rfl (hb hby d1_1) rfl ((if0 _ _).trans (teq q1).2) ?_
   refine XS.iconst X0.here hx rfl (hb hby d1_4) ?_
   refine XS.goto X0.here hx rfl (pc0 := 5) (pc' := 9) rfl (hb hby d1_5) (by decide) (by decide) ?_
   exact kt)
  obtain ⟨fs, hr, hrun, hended, hW, hsame⟩ := X0.leave (v := (some (.int 1))) (fun h => by rw [Bd.returns] at h; cases h)
  subst hB0
  refine ⟨_, _, st2 _ ?_, hrun, hended, _, _, rfl, ?_, ⟨_, rfl⟩, hW, hsame.mono (by decide) (by decide)⟩
  ·exact retOut X0 hx Bd.returns rfl (Or.inl ⟨rfl, Or.inl rfl, _, rfl⟩) (hb hby d1_9) hr
  ·show Q_rm_nz Z ux h0 n0 _ s₁.heap _
   rw [e0]
   exact ⟨by unfold own_nz; rw [if_pos q1], N0, rfl⟩
 ·have st3 : own_K p e below s₁ m 9 #[iv ux] [.int ux] B0 := fun t kt => st1 t (by
   refine XS.ifYes X0.here hx rfl (pc0 := 1) (pc' := 8) rfl (hb hby d1_1) rfl ((if0 _ _).trans (feq q1).2) (by decide) (by decide) ?_
   refine XS.iloadN X0.here hx rfl (hb hby d1_8) rfl ?_
   exact kt)
  obtain ⟨fs, hr, hrun, hended, hW, hsame⟩ := X0.leave (v := (some (.int ux))) (fun h => by rw [Bd.returns] at h; cases h)
  subst hB0
  refine ⟨_, _, st3 _ ?_, hrun, hended, _, _, rfl, ?_, ⟨_, rfl⟩, hW, hsame.mono (by decide) (by decide)⟩
  ·exact retOut X0 hx Bd.returns rfl (Or.inl ⟨rfl, Or.inl rfl, _, rfl⟩) (hb hby d1_9) hr
  ·show Q_rm_nz Z ux h0 n0 _ s₁.heap _
   rw [e0]
   exact ⟨by unfold own_nz; rw [if_neg q1], N0, rfl⟩
def Q_rm_put (Z : State) (ae : Addr) (uv : Int32) (uc : Int32) (i : Nat) (f : Nat → Value) (h0 : Heap) (n0 : Nat) (v : Option Value) (h : Heap) (L : List Loc) : Prop := v = none ∧ Fr n0 L ∧ Keep h0 h [ae] ∧ own_Av Z h ae .int 6 (fun q => if q = i + 1 then .int uc else if q = i then .int uv else f q)
set_option maxRecDepth 65536 in
set_option maxHeartbeats 40000000 in
theorem rm_put (l : Launch) (Z : State) (a0 : Array Value) (hw : ∀ d ∈ tables_1, d.before a0 Z = true) (ws : List Jvm.Cond) (ae : Addr) (uv : Int32) (uc : Int32) (i : Nat) (f : Nat → Value) (h0 : Heap) (n0 : Nat) (Z0 : n0 ≤ h0.size) (g_ae : n0 ≤ ae) (Ae : own_Av Z h0 ae .int 6 f) (hi : i ≤ 4) :
  MetFree l (⟨"com/example/saturation/saturation/OpenNodeEdgesPinLaw", "put", "([IIII)V"⟩ : MethodName) (head1 (Jvm.Cond.code (⟨"com/example/saturation/saturation/OpenNodeEdgesPinLaw", "put", "([IIII)V"⟩ : MethodName) method_3_code 4 none :: ws) ({ frames := 0, cells := 0, slots := 0, locals := 0 } : Room)) (fun a U => a = #[.ref ae, .int (Int32.ofNat i), .int uv, .int uc] ∧ Z.Warmed39 U.vm ∧ U.heap = h0) (fun _ _ _ _ _ => True) (fun _ U o U' => ∃ v L, o = .returned v ∧ Q_rm_put Z ae uv uc i f h0 n0 v U'.heap L ∧ FrameEnd U o U' L ({ frames := 0, cells := 0, slots := 0, locals := 0 } : Room).cells ({ frames := 0, cells := 0, slots := 0, locals := 0 } : Room).slots) := by
 refine MetFree.of_bodySF (plainFor_of_name own_pn2) hisR ?_
 intro p e s m args below meth c s₁ Bd hml0 hP hK
 obtain ⟨rfl, hZ, hh⟩ := hP
 have hx := Bd.exec
 have hby := Bd.bytes
 have hml : c.maxLocals = 4 := hml0
 have hown : s.vm.findClass "com/example/saturation/saturation/OpenNodeEdgesPinLaw" = some m.cls := findClass_of_methodNamed Bd.named
 have hnm := (name_of_methodNamed Bd.named Bd.method).1
 have X0 : Stand p l e ({ frames := 0, cells := 0, slots := 0, locals := 0 } : Room) s m #[.ref ae, .int (Int32.ofNat i), .int uv, .int uc] below meth c s₁ [] 0 0 := Stand.of_body Bd
 have e0 : s₁.heap = h0 := by rw [← hh, Bd.state]; rfl
 have N0 := Fr.nil n0
 obtain ⟨B0, hB0⟩ : ∃ B, B = (s₁.setTop (entryFrame m #[.ref ae, .int (Int32.ofNat i), .int uv, .int uc] 4)) := ⟨_, rfl⟩
 have st0 : own_K p e below s₁ m 0 #[rv ae, iv (Int32.ofNat i), iv uv, iv uc] [] B0 := fun t kk0 => hB0 ▸ castTop (own_ef2_RIII m ae (Int32.ofNat i) uv uc) kk0
 have k0 : Keep h0 h0 [ae] := Keep.refl _ _
 have pi := own_nat32 (show i < 2 ^ 31 by omega)
 have pj := own_nat32 (show i + 1 < 2 ^ 31 by omega)
 have st1 : own_K p e below s₁ m 3 #[rv ae, iv (Int32.ofNat i), iv uv, iv uc] [.int uv, .int (Int32.ofNat i), .ref ae] B0 := fun t kt => st0 t (by
  refine XS.aloadN X0.here hx rfl (hb hby d2_0) rfl rfl ?_
  refine XS.iloadN X0.here hx rfl (hb hby d2_1) rfl ?_
  refine XS.iloadN X0.here hx rfl (hb hby d2_2) rfl ?_
  exact kt)
 obtain ⟨T2, h2, X2, e2, W2, B2, ls2⟩ := own_iastore X0 hx hZ e0 Ae (j := (Int32.ofNat i)) (i := i) (pi.2) (pi.1) (by omega) (g := (mkF m 3 #[rv ae, iv (Int32.ofNat i), iv uv, iv uc] [.int uv, .int (Int32.ofNat i), .ref ae])) rfl rfl (hb hby d2_3)
 have N2 := Fr.snoc X2 N0 g_ae
 have z3 := Nat.le_trans Z0 (Keep.of_wr W2).1
 have k4 := k0.wr W2 (Or.inl (List.mem_of_getElem? (i := 0) rfl))
 have f5 := B2
 have st6 := fun t kt => st1 t (ls2 t kt)
 have st7 : own_K p e below T2 m 9 #[rv ae, iv (Int32.ofNat i), iv uv, iv uc] [.int uc, (.int (Int32.ofNat (i + 1))), .ref ae] B0 := fun t kt => st6 t (by
  refine XS.aloadN X2.here hx rfl (hb hby d2_4) rfl rfl ?_
  refine XS.iloadN X2.here hx rfl (hb hby d2_5) rfl ?_
  refine XS.iconst X2.here hx rfl (hb hby d2_6) ?_
  refine XS.iadd X2.here hx rfl (hb hby d2_7) rfl ?_
  show own_At p e below T2 m 8 #[rv ae, iv (Int32.ofNat i), iv uv, iv uc] [(.int ((Int32.ofNat i) + (1 : Int32))), .ref ae] _
  rw [show ((Int32.ofNat i) + (1 : Int32)) = (Int32.ofNat (i + 1)) from (own_up1 i)]
  refine XS.iloadN X2.here hx rfl (hb hby d2_8) rfl ?_
  exact kt)
 obtain ⟨T8, h8, X8, e8, W8, B8, ls8⟩ := own_iastore X2 hx hZ e2 f5 (j := (Int32.ofNat (i + 1))) (i := (i + 1)) (pj.2) (pj.1) (by omega) (g := (mkF m 9 #[rv ae, iv (Int32.ofNat i), iv uv, iv uc] [.int uc, (.int (Int32.ofNat (i + 1))), .ref ae])) rfl rfl (hb hby d2_9)
 have N8 := Fr.snoc X8 N2 g_ae
 have z9 := Nat.le_trans z3 (Keep.of_wr W8).1
 have k10 := k4.wr W8 (Or.inl (List.mem_of_getElem? (i := 0) rfl))
 have f11 := B8
 have st12 := fun t kt => st7 t (ls8 t kt)
 obtain ⟨fs, hr, hrun, hended, hW, hsame⟩ := X8.leave (v := none) (fun _ => rfl)
 subst hB0
 refine ⟨_, _, st12 _ ?_, hrun, hended, _, _, rfl, ?_, ⟨_, rfl⟩, hW, hsame.mono (by decide) (by decide)⟩
 ·exact X8.returnOut hx Bd.returns (hb hby d2_10) hr
 ·show Q_rm_put Z ae uv uc i f h0 n0 _ T8.heap _
  rw [e8]
  exact ⟨rfl, N8, k10, f11⟩
def Q_rm_at (Z : State) (ag : Addr) (ax : Addr) (i : Nat) (cn : Nat) (fg : Nat → Value) (fx : Nat → Value) (gx : Nat → Int32) (h0 : Heap) (n0 : Nat) (v : Option Value) (h : Heap) (L : List Loc) : Prop := v = some (.int 1) ∧ Fr n0 L ∧ h = h0
set_option maxRecDepth 65536 in
set_option maxHeartbeats 40000000 in
theorem rm_at (l : Launch) (Z : State) (a0 : Array Value) (hw : ∀ d ∈ tables_1, d.before a0 Z = true) (ws : List Jvm.Cond) (ag : Addr) (ax : Addr) (i : Nat) (cn : Nat) (fg : Nat → Value) (fx : Nat → Value) (gx : Nat → Int32) (h0 : Heap) (n0 : Nat) (Z0 : n0 ≤ h0.size) (hi : i ≤ 5) (Ag : own_Av Z h0 ag .int (2 * cn) fg) (Ax : own_Av Z h0 ax .int 6 fx) (hcn : cn ≤ 3) (hg : ∀ q, q < 2 * cn → fg q = .int (gx q)) (hx2 : ∀ q, q < 2 * cn → fx q = .int (gx q)) :
  MetFree l (⟨"com/example/saturation/saturation/OpenNodeEdgesPinLaw", "at", "([I[III)Z"⟩ : MethodName) (head1 (Jvm.Cond.code (⟨"com/example/saturation/saturation/OpenNodeEdgesPinLaw", "at", "([I[III)Z"⟩ : MethodName) method_4_code 4 (some .boolean) :: ws) ({ frames := 0, cells := 0, slots := 0, locals := 0 } : Room)) (fun a U => a = #[.ref ag, .ref ax, (.int (Int32.ofNat (2 * cn))), .int (Int32.ofNat i)] ∧ Z.Warmed39 U.vm ∧ U.heap = h0) (fun _ _ _ _ _ => True) (fun _ U o U' => ∃ v L, o = .returned v ∧ Q_rm_at Z ag ax i cn fg fx gx h0 n0 v U'.heap L ∧ FrameEnd U o U' L ({ frames := 0, cells := 0, slots := 0, locals := 0 } : Room).cells ({ frames := 0, cells := 0, slots := 0, locals := 0 } : Room).slots) := by
 refine MetFree.of_bodySF (plainFor_of_name own_pn2) hisR ?_
 intro p e s m args below meth c s₁ Bd hml0 hP hK
 obtain ⟨rfl, hZ, hh⟩ := hP
 have hx := Bd.exec
 have hby := Bd.bytes
 have hml : c.maxLocals = 4 := hml0
 have hown : s.vm.findClass "com/example/saturation/saturation/OpenNodeEdgesPinLaw" = some m.cls := findClass_of_methodNamed Bd.named
 have hnm := (name_of_methodNamed Bd.named Bd.method).1
 have X0 : Stand p l e ({ frames := 0, cells := 0, slots := 0, locals := 0 } : Room) s m #[.ref ag, .ref ax, (.int (Int32.ofNat (2 * cn))), .int (Int32.ofNat i)] below meth c s₁ [] 0 0 := Stand.of_body Bd
 have e0 : s₁.heap = h0 := by rw [← hh, Bd.state]; rfl
 have N0 := Fr.nil n0
 obtain ⟨B0, hB0⟩ : ∃ B, B = (s₁.setTop (entryFrame m #[.ref ag, .ref ax, (.int (Int32.ofNat (2 * cn))), .int (Int32.ofNat i)] 4)) := ⟨_, rfl⟩
 have st0 : own_K p e below s₁ m 0 #[rv ag, rv ax, iv (Int32.ofNat (2 * cn)), iv (Int32.ofNat i)] [] B0 := fun t kk0 => hB0 ▸ castTop (own_ef13_RRII m ag ax (Int32.ofNat (2 * cn)) (Int32.ofNat i)) kk0
 have pi := own_nat32 (show i < 2 ^ 31 by omega)
 have st1 : own_K p e below s₁ m 2 #[rv ag, rv ax, iv (Int32.ofNat (2 * cn)), iv (Int32.ofNat i)] [.int (Int32.ofNat i), (.int (Int32.ofNat (2 * cn)))] B0 := fun t kt => st0 t (by
  refine XS.iloadN X0.here hx rfl (hb hby d13_0) rfl ?_
  refine XS.iloadN X0.here hx rfl (hb hby d13_1) rfl ?_
  exact kt)
 by_cases q1 : (Int32.ofNat i) < (Int32.ofNat (2 * cn))
 ·have q2 := (own_ltN (by omega) (by omega)).mp q1
  have st2 : own_K p e below s₁ m 7 #[rv ag, rv ax, iv (Int32.ofNat (2 * cn)), iv (Int32.ofNat i)] [.int (Int32.ofNat i), .ref ag] B0 := fun t kt => st1 t (by
   refine XS.icmpNo X0.here hx rfl (hb hby d13_2) rfl (tlt q1).2.2.2 ?_
   refine XS.aloadN X0.here hx rfl (hb hby d13_5) rfl rfl ?_
   refine XS.iloadN X0.here hx rfl (hb hby d13_6) rfl ?_
   exact kt)
  have ls3 := own_iaload X0 hx hZ e0 Ag (j := (Int32.ofNat i)) (i := i) (pi.2) (pi.1) (q2) (v := (.int (gx i))) (hg i q2) (g := (mkF m 7 #[rv ag, rv ax, iv (Int32.ofNat (2 * cn)), iv (Int32.ofNat i)] [.int (Int32.ofNat i), .ref ag])) rfl rfl (hb hby d13_7)
  have st4 := fun t kt => st2 t (ls3 t kt)
  have st5 : own_K p e below s₁ m 10 #[rv ag, rv ax, iv (Int32.ofNat (2 * cn)), iv (Int32.ofNat i)] [.int (Int32.ofNat i), .ref ax, .int (gx i)] B0 := fun t kt => st4 t (by
   refine XS.aloadN X0.here hx rfl (hb hby d13_8) rfl rfl ?_
   refine XS.iloadN X0.here hx rfl (hb hby d13_9) rfl ?_
   exact kt)
  have ls6 := own_iaload X0 hx hZ e0 Ax (j := (Int32.ofNat i)) (i := i) (pi.2) (pi.1) (by omega) (v := (.int (gx i))) (hx2 i q2) (g := (mkF m 10 #[rv ag, rv ax, iv (Int32.ofNat (2 * cn)), iv (Int32.ofNat i)] [.int (Int32.ofNat i), .ref ax, .int (gx i)])) rfl rfl (hb hby d13_10)
  have st7 := fun t kt => st5 t (ls6 t kt)
  have hc8 : (gx i) = (gx i) := rfl
  have st9 : own_K p e below s₁ m 19 #[rv ag, rv ax, iv (Int32.ofNat (2 * cn)), iv (Int32.ofNat i)] [.int 1] B0 := fun t kt => st7 t (by
   refine XS.icmpNo X0.here hx rfl (hb hby d13_11) rfl (teq hc8).2 ?_
   refine XS.iconst X0.here hx rfl (hb hby d13_14) ?_
   refine XS.goto X0.here hx rfl (pc0 := 15) (pc' := 19) rfl (hb hby d13_15) (by decide) (by decide) ?_
   exact kt)
  obtain ⟨fs, hr, hrun, hended, hW, hsame⟩ := X0.leave (v := (some (.int 1))) (fun h => by rw [Bd.returns] at h; cases h)
  subst hB0
  refine ⟨_, _, st9 _ ?_, hrun, hended, _, _, rfl, ?_, ⟨_, rfl⟩, hW, hsame.mono (by decide) (by decide)⟩
  ·exact retN X0 hx (t := .boolean) Bd.returns (by simp) (hb hby d13_19) hr
  ·show Q_rm_at Z ag ax i cn fg fx gx h0 n0 _ s₁.heap _
   rw [e0]
   exact ⟨rfl, N0, rfl⟩
 ·have st10 : own_K p e below s₁ m 19 #[rv ag, rv ax, iv (Int32.ofNat (2 * cn)), iv (Int32.ofNat i)] [.int 1] B0 := fun t kt => st1 t (by
   refine XS.icmpYes X0.here hx rfl (pc0 := 2) (pc' := 14) rfl (hb hby d13_2) rfl (flt q1).2.2.2 (by decide) (by decide) ?_
   refine XS.iconst X0.here hx rfl (hb hby d13_14) ?_
   refine XS.goto X0.here hx rfl (pc0 := 15) (pc' := 19) rfl (hb hby d13_15) (by decide) (by decide) ?_
   exact kt)
  obtain ⟨fs, hr, hrun, hended, hW, hsame⟩ := X0.leave (v := (some (.int 1))) (fun h => by rw [Bd.returns] at h; cases h)
  subst hB0
  refine ⟨_, _, st10 _ ?_, hrun, hended, _, _, rfl, ?_, ⟨_, rfl⟩, hW, hsame.mono (by decide) (by decide)⟩
  ·exact retN X0 hx (t := .boolean) Bd.returns (by simp) (hb hby d13_19) hr
  ·show Q_rm_at Z ag ax i cn fg fx gx h0 n0 _ s₁.heap _
   rw [e0]
   exact ⟨rfl, N0, rfl⟩
def Q_rm_same (Z : State) (ag : Addr) (ax : Addr) (cn : Nat) (fg : Nat → Value) (fx : Nat → Value) (gx : Nat → Int32) (h0 : Heap) (n0 : Nat) (v : Option Value) (h : Heap) (L : List Loc) : Prop := v = some (.int 1) ∧ Fr n0 L ∧ h = h0
set_option maxRecDepth 65536 in
set_option maxHeartbeats 40000000 in
theorem rm_same (l : Launch) (Z : State) (a0 : Array Value) (hw : ∀ d ∈ tables_1, d.before a0 Z = true) (ws : List Jvm.Cond) (ag : Addr) (ax : Addr) (cn : Nat) (fg : Nat → Value) (fx : Nat → Value) (gx : Nat → Int32) (h0 : Heap) (n0 : Nat) (Z0 : n0 ≤ h0.size) (Ag : own_Av Z h0 ag .int (2 * cn) fg) (Ax : own_Av Z h0 ax .int 6 fx) (hcn : cn ≤ 3) (hg : ∀ q, q < 2 * cn → fg q = .int (gx q)) (hx2 : ∀ q, q < 2 * cn → fx q = .int (gx q)) :
  MetFree l (⟨"com/example/saturation/saturation/OpenNodeEdgesPinLaw", "same", "([I[II)Z"⟩ : MethodName) (head1 (Jvm.Cond.code (⟨"com/example/saturation/saturation/OpenNodeEdgesPinLaw", "same", "([I[II)Z"⟩ : MethodName) method_5_code 3 (some .boolean) :: ws) ({ frames := 1, cells := 0, slots := 0, locals := 15 } : Room)) (fun a U => a = #[.ref ag, .ref ax, (.int (Int32.ofNat (2 * cn)))] ∧ Z.Warmed39 U.vm ∧ U.heap = h0) (fun _ _ _ _ _ => True) (fun _ U o U' => ∃ v L, o = .returned v ∧ Q_rm_same Z ag ax cn fg fx gx h0 n0 v U'.heap L ∧ FrameEnd U o U' L ({ frames := 1, cells := 0, slots := 0, locals := 15 } : Room).cells ({ frames := 1, cells := 0, slots := 0, locals := 15 } : Room).slots) := by
 refine MetFree.of_bodySF (plainFor_of_name own_pn2) hisR ?_
 intro p e s m args below meth c s₁ Bd hml0 hP hK
 obtain ⟨rfl, hZ, hh⟩ := hP
 have hx := Bd.exec
 have hby := Bd.bytes
 have hml : c.maxLocals = 3 := hml0
 have hown : s.vm.findClass "com/example/saturation/saturation/OpenNodeEdgesPinLaw" = some m.cls := findClass_of_methodNamed Bd.named
 have hnm := (name_of_methodNamed Bd.named Bd.method).1
 have X0 : Stand p l e ({ frames := 1, cells := 0, slots := 0, locals := 15 } : Room) s m #[.ref ag, .ref ax, (.int (Int32.ofNat (2 * cn)))] below meth c s₁ [] 0 0 := Stand.of_body Bd
 have e0 : s₁.heap = h0 := by rw [← hh, Bd.state]; rfl
 have N0 := Fr.nil n0
 obtain ⟨B0, hB0⟩ : ∃ B, B = (s₁.setTop (entryFrame m #[.ref ag, .ref ax, (.int (Int32.ofNat (2 * cn)))] 3)) := ⟨_, rfl⟩
 have st0 : own_K p e below s₁ m 0 #[rv ag, rv ax, iv (Int32.ofNat (2 * cn))] [] B0 := fun t kk0 => hB0 ▸ castTop (own_ef12_RRI m ag ax (Int32.ofNat (2 * cn))) kk0
 have st1 : own_K p e below s₁ m 1 #[rv ag, rv ax, iv (Int32.ofNat (2 * cn))] [.ref ag] B0 := fun t kt => st0 t (by
  refine XS.aloadN X0.here hx rfl (hb hby d12_0) rfl rfl ?_
  exact kt)
 have ls2 := own_alen X0 hx hZ e0 Ag (g := (mkF m 1 #[rv ag, rv ax, iv (Int32.ofNat (2 * cn))] [.ref ag])) rfl rfl (hb hby d12_1)
 have st3 := fun t kt => st1 t (ls2 t kt)
 have hc4 : (Int32.ofNat (2 * cn)) = (Int32.ofNat (2 * cn)) := rfl
 have st5 : own_K p e below s₁ m 12 #[rv ag, rv ax, iv (Int32.ofNat (2 * cn))] [.int 0, (.int (Int32.ofNat (2 * cn))), .ref ax, .ref ag] B0 := fun t kt => st3 t (by
  refine XS.iloadN X0.here hx rfl (hb hby d12_2) rfl ?_
  refine XS.icmpYes X0.here hx rfl (pc0 := 3) (pc' := 8) rfl (hb hby d12_3) rfl (teq hc4).1 (by decide) (by decide) ?_
  refine XS.aloadN X0.here hx rfl (hb hby d12_8) rfl rfl ?_
  refine XS.aloadN X0.here hx rfl (hb hby d12_9) rfl rfl ?_
  refine XS.iloadN X0.here hx rfl (hb hby d12_10) rfl ?_
  refine XS.iconst X0.here hx rfl (hb hby d12_11) ?_
  exact kt)
 obtain ⟨_, _, ⟨T6, L6, k6, n6⟩, -, X6, ⟨Lc6, hQ6, l6, y6, z6⟩, ls6⟩ := Jvm.LawKit.callS X0 hx (y := (⟨"com/example/saturation/saturation/OpenNodeEdgesPinLaw", "at", "([I[III)Z"⟩ : MethodName)) hown (mvT hZ (own_w hw 75 rfl)) (mvT hZ (own_w hw 76 rfl)) (mvT hZ (own_w hw 3 rfl)) (mvT hZ (own_w hw 77 rfl)) (by decide) (backOf (W := 0) (rm_at l Z a0 hw [] ag ax 0 cn fg fx gx h0 n0 Z0 (by decide) Ag Ax hcn hg hx2) hZ (own_w hw 77 rfl) (own_w hw 3 rfl) (by decide) (by decide)) (g := (mkF m 12 #[rv ag, rv ax, iv (Int32.ofNat (2 * cn))] [.int 0, (.int (Int32.ofNat (2 * cn))), .ref ax, .ref ag])) rfl (by rw [hml]; rfl) (argsL := [.ref ag, .ref ax, (.int (Int32.ofNat (2 * cn))), .int 0]) (rest := []) (lenOf own_pd6 rfl) rfl (by show 2 * 0 + _ ≤ _; exact Nat.le_of_eq rfl) (hb hby d12_12) (fun _ _ => ⟨rfl, e0, (by decide : 0 + 0 ≤ _), (by decide : 0 + 0 ≤ _)⟩)
 dsimp only [Pt.U, Pt.locs, Pt.cells, Pt.slots] at X6 l6 y6 z6 ls6 hQ6
 subst l6 y6 z6
 obtain ⟨rfl, Nq6, eq6⟩ := hQ6
 have N6 := Fr.app N0 Nq6
 have st7 := fun t kt => st5 t (ls6 t kt)
 have hc8 : ¬ ((1 : Int32) = (0 : Int32)) := by decide
 have st9 : own_K p e below T6 m 22 #[rv ag, rv ax, iv (Int32.ofNat (2 * cn))] [.int 1, (.int (Int32.ofNat (2 * cn))), .ref ax, .ref ag] B0 := fun t kt => st7 t (by
  refine XS.ifNo X6.here hx rfl (hb hby d12_15) rfl ((if0 _ _).trans (feq hc8).1) ?_
  refine XS.aloadN X6.here hx rfl (hb hby d12_18) rfl rfl ?_
  refine XS.aloadN X6.here hx rfl (hb hby d12_19) rfl rfl ?_
  refine XS.iloadN X6.here hx rfl (hb hby d12_20) rfl ?_
  refine XS.iconst X6.here hx rfl (hb hby d12_21) ?_
  exact kt)
 obtain ⟨_, _, ⟨T10, L10, k10, n10⟩, -, X10, ⟨Lc10, hQ10, l10, y10, z10⟩, ls10⟩ := Jvm.LawKit.callS X6 hx (y := (⟨"com/example/saturation/saturation/OpenNodeEdgesPinLaw", "at", "([I[III)Z"⟩ : MethodName)) hown (mvT hZ (own_w hw 75 rfl)) (mvT hZ (own_w hw 76 rfl)) (mvT hZ (own_w hw 3 rfl)) (mvT hZ (own_w hw 77 rfl)) (by decide) (backOf (W := 0) (rm_at l Z a0 hw [] ag ax 1 cn fg fx gx h0 n0 Z0 (by decide) Ag Ax hcn hg hx2) hZ (own_w hw 77 rfl) (own_w hw 3 rfl) (by decide) (by decide)) (g := (mkF m 22 #[rv ag, rv ax, iv (Int32.ofNat (2 * cn))] [.int 1, (.int (Int32.ofNat (2 * cn))), .ref ax, .ref ag])) rfl (by rw [hml]; rfl) (argsL := [.ref ag, .ref ax, (.int (Int32.ofNat (2 * cn))), .int 1]) (rest := []) (lenOf own_pd6 rfl) rfl (by show 2 * 0 + _ ≤ _; exact Nat.le_of_eq rfl) (hb hby d12_22) (fun _ _ => ⟨rfl, eq6, (by decide : 0 + 0 ≤ _), (by decide : 0 + 0 ≤ _)⟩)
 dsimp only [Pt.U, Pt.locs, Pt.cells, Pt.slots] at X10 l10 y10 z10 ls10 hQ10
 subst l10 y10 z10
 obtain ⟨rfl, Nq10, eq10⟩ := hQ10
 have N10 := Fr.app N6 Nq10
 have st11 := fun t kt => st9 t (ls10 t kt)
 have hc12 : ¬ ((1 : Int32) = (0 : Int32)) := by decide
 have st13 : own_K p e below T10 m 32 #[rv ag, rv ax, iv (Int32.ofNat (2 * cn))] [.int 2, (.int (Int32.ofNat (2 * cn))), .ref ax, .ref ag] B0 := fun t kt => st11 t (by
  refine XS.ifNo X10.here hx rfl (hb hby d12_25) rfl ((if0 _ _).trans (feq hc12).1) ?_
  refine XS.aloadN X10.here hx rfl (hb hby d12_28) rfl rfl ?_
  refine XS.aloadN X10.here hx rfl (hb hby d12_29) rfl rfl ?_
  refine XS.iloadN X10.here hx rfl (hb hby d12_30) rfl ?_
  refine XS.iconst X10.here hx rfl (hb hby d12_31) ?_
  exact kt)
 obtain ⟨_, _, ⟨T14, L14, k14, n14⟩, -, X14, ⟨Lc14, hQ14, l14, y14, z14⟩, ls14⟩ := Jvm.LawKit.callS X10 hx (y := (⟨"com/example/saturation/saturation/OpenNodeEdgesPinLaw", "at", "([I[III)Z"⟩ : MethodName)) hown (mvT hZ (own_w hw 75 rfl)) (mvT hZ (own_w hw 76 rfl)) (mvT hZ (own_w hw 3 rfl)) (mvT hZ (own_w hw 77 rfl)) (by decide) (backOf (W := 0) (rm_at l Z a0 hw [] ag ax 2 cn fg fx gx h0 n0 Z0 (by decide) Ag Ax hcn hg hx2) hZ (own_w hw 77 rfl) (own_w hw 3 rfl) (by decide) (by decide)) (g := (mkF m 32 #[rv ag, rv ax, iv (Int32.ofNat (2 * cn))] [.int 2, (.int (Int32.ofNat (2 * cn))), .ref ax, .ref ag])) rfl (by rw [hml]; rfl) (argsL := [.ref ag, .ref ax, (.int (Int32.ofNat (2 * cn))), .int 2]) (rest := []) (lenOf own_pd6 rfl) rfl (by show 2 * 0 + _ ≤ _; exact Nat.le_of_eq rfl) (hb hby d12_32) (fun _ _ => ⟨rfl, eq10, (by decide : 0 + 0 ≤ _), (by decide : 0 + 0 ≤ _)⟩)
 dsimp only [Pt.U, Pt.locs, Pt.cells, Pt.slots] at X14 l14 y14 z14 ls14 hQ14
 subst l14 y14 z14
 obtain ⟨rfl, Nq14, eq14⟩ := hQ14
 have N14 := Fr.app N10 Nq14
 have st15 := fun t kt => st13 t (ls14 t kt)
 have hc16 : ¬ ((1 : Int32) = (0 : Int32)) := by decide
 have st17 : own_K p e below T14 m 42 #[rv ag, rv ax, iv (Int32.ofNat (2 * cn))] [.int 3, (.int (Int32.ofNat (2 * cn))), .ref ax, .ref ag] B0 := fun t kt => st15 t (by
  refine XS.ifNo X14.here hx rfl (hb hby d12_35) rfl ((if0 _ _).trans (feq hc16).1) ?_
  refine XS.aloadN X14.here hx rfl (hb hby d12_38) rfl rfl ?_
  refine XS.aloadN X14.here hx rfl (hb hby d12_39) rfl rfl ?_
  refine XS.iloadN X14.here hx rfl (hb hby d12_40) rfl ?_
  refine XS.iconst X14.here hx rfl (hb hby d12_41) ?_
  exact kt)
 obtain ⟨_, _, ⟨T18, L18, k18, n18⟩, -, X18, ⟨Lc18, hQ18, l18, y18, z18⟩, ls18⟩ := Jvm.LawKit.callS X14 hx (y := (⟨"com/example/saturation/saturation/OpenNodeEdgesPinLaw", "at", "([I[III)Z"⟩ : MethodName)) hown (mvT hZ (own_w hw 75 rfl)) (mvT hZ (own_w hw 76 rfl)) (mvT hZ (own_w hw 3 rfl)) (mvT hZ (own_w hw 77 rfl)) (by decide) (backOf (W := 0) (rm_at l Z a0 hw [] ag ax 3 cn fg fx gx h0 n0 Z0 (by decide) Ag Ax hcn hg hx2) hZ (own_w hw 77 rfl) (own_w hw 3 rfl) (by decide) (by decide)) (g := (mkF m 42 #[rv ag, rv ax, iv (Int32.ofNat (2 * cn))] [.int 3, (.int (Int32.ofNat (2 * cn))), .ref ax, .ref ag])) rfl (by rw [hml]; rfl) (argsL := [.ref ag, .ref ax, (.int (Int32.ofNat (2 * cn))), .int 3]) (rest := []) (lenOf own_pd6 rfl) rfl (by show 2 * 0 + _ ≤ _; exact Nat.le_of_eq rfl) (hb hby d12_42) (fun _ _ => ⟨rfl, eq14, (by decide : 0 + 0 ≤ _), (by decide : 0 + 0 ≤ _)⟩)
 dsimp only [Pt.U, Pt.locs, Pt.cells, Pt.slots] at X18 l18 y18 z18 ls18 hQ18
 subst l18 y18 z18
 obtain ⟨rfl, Nq18, eq18⟩ := hQ18
 have N18 := Fr.app N14 Nq18
 have st19 := fun t kt => st17 t (ls18 t kt)
 have hc20 : ¬ ((1 : Int32) = (0 : Int32)) := by decide
 have st21 : own_K p e below T18 m 52 #[rv ag, rv ax, iv (Int32.ofNat (2 * cn))] [.int 4, (.int (Int32.ofNat (2 * cn))), .ref ax, .ref ag] B0 := fun t kt => st19 t (by
  refine XS.ifNo X18.here hx rfl (hb hby d12_45) rfl ((if0 _ _).trans (feq hc20).1) ?_
  refine XS.aloadN X18.here hx rfl (hb hby d12_48) rfl rfl ?_
  refine XS.aloadN X18.here hx rfl (hb hby d12_49) rfl rfl ?_
  refine XS.iloadN X18.here hx rfl (hb hby d12_50) rfl ?_
  refine XS.iconst X18.here hx rfl (hb hby d12_51) ?_
  exact kt)
 obtain ⟨_, _, ⟨T22, L22, k22, n22⟩, -, X22, ⟨Lc22, hQ22, l22, y22, z22⟩, ls22⟩ := Jvm.LawKit.callS X18 hx (y := (⟨"com/example/saturation/saturation/OpenNodeEdgesPinLaw", "at", "([I[III)Z"⟩ : MethodName)) hown (mvT hZ (own_w hw 75 rfl)) (mvT hZ (own_w hw 76 rfl)) (mvT hZ (own_w hw 3 rfl)) (mvT hZ (own_w hw 77 rfl)) (by decide) (backOf (W := 0) (rm_at l Z a0 hw [] ag ax 4 cn fg fx gx h0 n0 Z0 (by decide) Ag Ax hcn hg hx2) hZ (own_w hw 77 rfl) (own_w hw 3 rfl) (by decide) (by decide)) (g := (mkF m 52 #[rv ag, rv ax, iv (Int32.ofNat (2 * cn))] [.int 4, (.int (Int32.ofNat (2 * cn))), .ref ax, .ref ag])) rfl (by rw [hml]; rfl) (argsL := [.ref ag, .ref ax, (.int (Int32.ofNat (2 * cn))), .int 4]) (rest := []) (lenOf own_pd6 rfl) rfl (by show 2 * 0 + _ ≤ _; exact Nat.le_of_eq rfl) (hb hby d12_52) (fun _ _ => ⟨rfl, eq18, (by decide : 0 + 0 ≤ _), (by decide : 0 + 0 ≤ _)⟩)
 dsimp only [Pt.U, Pt.locs, Pt.cells, Pt.slots] at X22 l22 y22 z22 ls22 hQ22
 subst l22 y22 z22
 obtain ⟨rfl, Nq22, eq22⟩ := hQ22
 have N22 := Fr.app N18 Nq22
 have st23 := fun t kt => st21 t (ls22 t kt)
 have hc24 : ¬ ((1 : Int32) = (0 : Int32)) := by decide
 have st25 : own_K p e below T22 m 62 #[rv ag, rv ax, iv (Int32.ofNat (2 * cn))] [.int 5, (.int (Int32.ofNat (2 * cn))), .ref ax, .ref ag] B0 := fun t kt => st23 t (by
  refine XS.ifNo X22.here hx rfl (hb hby d12_55) rfl ((if0 _ _).trans (feq hc24).1) ?_
  refine XS.aloadN X22.here hx rfl (hb hby d12_58) rfl rfl ?_
  refine XS.aloadN X22.here hx rfl (hb hby d12_59) rfl rfl ?_
  refine XS.iloadN X22.here hx rfl (hb hby d12_60) rfl ?_
  refine XS.iconst X22.here hx rfl (hb hby d12_61) ?_
  exact kt)
 obtain ⟨_, _, ⟨T26, L26, k26, n26⟩, -, X26, ⟨Lc26, hQ26, l26, y26, z26⟩, ls26⟩ := Jvm.LawKit.callS X22 hx (y := (⟨"com/example/saturation/saturation/OpenNodeEdgesPinLaw", "at", "([I[III)Z"⟩ : MethodName)) hown (mvT hZ (own_w hw 75 rfl)) (mvT hZ (own_w hw 76 rfl)) (mvT hZ (own_w hw 3 rfl)) (mvT hZ (own_w hw 77 rfl)) (by decide) (backOf (W := 0) (rm_at l Z a0 hw [] ag ax 5 cn fg fx gx h0 n0 Z0 (by decide) Ag Ax hcn hg hx2) hZ (own_w hw 77 rfl) (own_w hw 3 rfl) (by decide) (by decide)) (g := (mkF m 62 #[rv ag, rv ax, iv (Int32.ofNat (2 * cn))] [.int 5, (.int (Int32.ofNat (2 * cn))), .ref ax, .ref ag])) rfl (by rw [hml]; rfl) (argsL := [.ref ag, .ref ax, (.int (Int32.ofNat (2 * cn))), .int 5]) (rest := []) (lenOf own_pd6 rfl) rfl (by show 2 * 0 + _ ≤ _; exact Nat.le_of_eq rfl) (hb hby d12_62) (fun _ _ => ⟨rfl, eq22, (by decide : 0 + 0 ≤ _), (by decide : 0 + 0 ≤ _)⟩)
 dsimp only [Pt.U, Pt.locs, Pt.cells, Pt.slots] at X26 l26 y26 z26 ls26 hQ26
 subst l26 y26 z26
 obtain ⟨rfl, Nq26, eq26⟩ := hQ26
 have N26 := Fr.app N22 Nq26
 have st27 := fun t kt => st25 t (ls26 t kt)
 have hc28 : ¬ ((1 : Int32) = (0 : Int32)) := by decide
 have st29 : own_K p e below T26 m 73 #[rv ag, rv ax, iv (Int32.ofNat (2 * cn))] [.int 1] B0 := fun t kt => st27 t (by
  refine XS.ifNo X26.here hx rfl (hb hby d12_65) rfl ((if0 _ _).trans (feq hc28).1) ?_
  refine XS.iconst X26.here hx rfl (hb hby d12_68) ?_
  refine XS.goto X26.here hx rfl (pc0 := 69) (pc' := 73) rfl (hb hby d12_69) (by decide) (by decide) ?_
  exact kt)
 obtain ⟨fs, hr, hrun, hended, hW, hsame⟩ := X26.leave (v := (some (.int 1))) (fun h => by rw [Bd.returns] at h; cases h)
 subst hB0
 refine ⟨_, _, st29 _ ?_, hrun, hended, _, _, rfl, ?_, ⟨_, rfl⟩, hW, hsame.mono (by decide) (by decide)⟩
 ·exact retN X26 hx (t := .boolean) Bd.returns (by simp) (hb hby d12_73) hr
 ·show Q_rm_same Z ag ax cn fg fx gx h0 n0 _ T26.heap _
  rw [eq26]
  exact ⟨rfl, N26, rfl⟩
def Q_rm_law (Z : State) (xa : Int32) (xb : Int32) (xp : Int64) (xw : Int32) (xc : Int32) (xf : Int32) (h0 : Heap) (n0 : Nat) (v : Option Value) (h : Heap) (L : List Loc) : Prop := v = some (.int 1) ∧ Fr n0 L
set_option maxRecDepth 65536 in
set_option maxHeartbeats 40000000 in
theorem rm_law (l : Launch) (Z : State) (a0 : Array Value) (hw : ∀ d ∈ tables_1, d.before a0 Z = true) (ws : List Jvm.Cond) (xa : Int32) (xb : Int32) (xp : Int64) (xw : Int32) (xc : Int32) (xf : Int32) (h0 : Heap) (n0 : Nat) (Z0 : n0 ≤ h0.size) :
  MetFree l x (head1 (Jvm.Cond.code x code maxLocals ret :: ws) room_1) (fun a U => a = #[.int xa, .int xb, .long xp, .int xw, .int xc, .int xf] ∧ Z.Warmed39 U.vm ∧ U.heap = h0) (fun _ _ _ _ _ => True) (fun _ U o U' => ∃ v L, o = .returned v ∧ Q_rm_law Z xa xb xp xw xc xf h0 n0 v U'.heap L ∧ FrameEnd U o U' L room_1.cells room_1.slots) := by
 refine MetFree.of_bodySF (plainFor_of_name own_pn2) hisR ?_
 intro p e s m args below meth c s₁ Bd hml0 hP hK
 obtain ⟨rfl, hZ, hh⟩ := hP
 have hx := Bd.exec
 have hby := Bd.bytes
 have hml : c.maxLocals = 23 := hml0
 have hown : s.vm.findClass "com/example/saturation/saturation/OpenNodeEdgesPinLaw" = some m.cls := findClass_of_methodNamed Bd.named
 have hnm := (name_of_methodNamed Bd.named Bd.method).1
 have X0 : Stand p l e room_1 s m #[.int xa, .int xb, .long xp, .int xw, .int xc, .int xf] below meth c s₁ [] 0 0 := Stand.of_body Bd
 have e0 : s₁.heap = h0 := by rw [← hh, Bd.state]; rfl
 have N0 := Fr.nil n0
 obtain ⟨B0, hB0⟩ : ∃ B, B = (s₁.setTop (entryFrame m #[.int xa, .int xb, .long xp, .int xw, .int xc, .int xf] maxLocals)) := ⟨_, rfl⟩
 have st0 : own_K p e below s₁ m 0 #[iv xa, iv xb, .val (.long xp), .second, iv xw, iv xc, iv xf, .unset, .unset, .unset, .unset, .unset, .unset, .unset, .unset, .unset, .unset, .unset, .unset, .unset, .unset, .unset, .unset] [] B0 := fun t kk0 => hB0 ▸ castTop (own_ef0_IIJIII m xa xb xp xw xc xf) kk0
 obtain ⟨nn, h_nn⟩ : ∃ z : Int32, z = ((xf &&& (3 : Int32)) % (3 : Int32)) := ⟨_, rfl⟩
 have hn := own_rem3 xf
 rw [← h_nn] at hn
 obtain ⟨evi, h_evi⟩ : ∃ z : Int32, z = (((xf.toUInt32 >>> ((2 : Int32) &&& 31).toUInt32).toInt32) &&& (3 : Int32)) := ⟨_, rfl⟩
 obtain ⟨ev, hev, hevi⟩ : ∃ z : Nat, z ≤ 3 ∧ evi = Int32.ofNat z := by
  have h1 := c_mask ((xf.toUInt32 >>> ((2 : Int32) &&& 31).toUInt32).toInt32) 3 2 (by decide) (by decide)
  have e : ((2 ^ 2 : Nat) : Int) = 4 := rfl
  rw [e, ← h_evi] at h1
  exact ⟨evi.toInt.toNat, by omega, by rw [← Int32.toInt_inj, own_ofN (by omega)]; omega⟩
 obtain ⟨md, h_md⟩ : ∃ z : Int32, z = (((xf.toUInt32 >>> ((4 : Int32) &&& 31).toUInt32).toInt32) &&& (7 : Int32)) := ⟨_, rfl⟩
 have st1 : own_K p e below s₁ m 32 #[iv xa, iv xb, .val (.long xp), .second, iv xw, iv xc, iv xf, iv nn, iv (Int32.ofNat ev), iv md, .unset, .unset, .unset, .unset, .unset, .unset, .unset, .unset, .unset, .unset, .unset, .unset, .unset] [(.int (((xf.toUInt32 >>> ((7 : Int32) &&& 31).toUInt32).toInt32) &&& (1 : Int32)))] B0 := fun t kt => st0 t (by
  refine XS.iload X0.here hx rfl (hb hby at_0) rfl ?_
  refine XS.iconst X0.here hx rfl (hb hby at_2) ?_
  refine XS.iand X0.here hx rfl (hb hby at_3) rfl ?_
  refine XS.iconst X0.here hx rfl (hb hby at_4) ?_
  show own_At p e below s₁ m 5 #[iv xa, iv xb, .val (.long xp), .second, iv xw, iv xc, iv xf, .unset, .unset, .unset, .unset, .unset, .unset, .unset, .unset, .unset, .unset, .unset, .unset, .unset, .unset, .unset, .unset] [.int 3, (.int (xf &&& (3 : Int32)))] _
  refine iremM X0 hx rfl (hb hby at_5) rfl (by decide) ?_
  show own_At p e below s₁ m 6 #[iv xa, iv xb, .val (.long xp), .second, iv xw, iv xc, iv xf, .unset, .unset, .unset, .unset, .unset, .unset, .unset, .unset, .unset, .unset, .unset, .unset, .unset, .unset, .unset, .unset] [(.int ((xf &&& (3 : Int32)) % (3 : Int32)))] _
  rw [← h_nn]
  refine XS.istore X0.here hx rfl (hb hby at_6) rfl (l' := #[iv xa, iv xb, .val (.long xp), .second, iv xw, iv xc, iv xf, iv nn, .unset, .unset, .unset, .unset, .unset, .unset, .unset, .unset, .unset, .unset, .unset, .unset, .unset, .unset, .unset]) rfl ?_
  refine XS.iload X0.here hx rfl (hb hby at_8) rfl ?_
  refine XS.iconst X0.here hx rfl (hb hby at_10) ?_
  refine XS.iushr X0.here hx rfl (hb hby at_11) rfl ?_
  refine XS.iconst X0.here hx rfl (hb hby at_12) ?_
  refine XS.iand X0.here hx rfl (hb hby at_13) rfl ?_
  show own_At p e below s₁ m 14 #[iv xa, iv xb, .val (.long xp), .second, iv xw, iv xc, iv xf, iv nn, .unset, .unset, .unset, .unset, .unset, .unset, .unset, .unset, .unset, .unset, .unset, .unset, .unset, .unset, .unset] [(.int (((xf.toUInt32 >>> ((2 : Int32) &&& 31).toUInt32).toInt32) &&& (3 : Int32)))] _
  rw [← h_evi]
  show own_At p e below s₁ m 14 #[iv xa, iv xb, .val (.long xp), .second, iv xw, iv xc, iv xf, iv nn, .unset, .unset, .unset, .unset, .unset, .unset, .unset, .unset, .unset, .unset, .unset, .unset, .unset, .unset, .unset] [.int evi] _
  rw [show evi = (Int32.ofNat ev) from (hevi)]
  refine XS.istore X0.here hx rfl (hb hby at_14) rfl (l' := #[iv xa, iv xb, .val (.long xp), .second, iv xw, iv xc, iv xf, iv nn, iv (Int32.ofNat ev), .unset, .unset, .unset, .unset, .unset, .unset, .unset, .unset, .unset, .unset, .unset, .unset, .unset, .unset]) rfl ?_
  refine XS.iload X0.here hx rfl (hb hby at_16) rfl ?_
  refine XS.iconst X0.here hx rfl (hb hby at_18) ?_
  refine XS.iushr X0.here hx rfl (hb hby at_19) rfl ?_
  refine XS.bipush X0.here hx rfl (hb hby at_20) ?_
  refine XS.iand X0.here hx rfl (hb hby at_22) rfl ?_
  show own_At p e below s₁ m 23 #[iv xa, iv xb, .val (.long xp), .second, iv xw, iv xc, iv xf, iv nn, iv (Int32.ofNat ev), .unset, .unset, .unset, .unset, .unset, .unset, .unset, .unset, .unset, .unset, .unset, .unset, .unset, .unset] [(.int (((xf.toUInt32 >>> ((4 : Int32) &&& 31).toUInt32).toInt32) &&& (7 : Int32)))] _
  rw [← h_md]
  refine XS.istore X0.here hx rfl (hb hby at_23) rfl (l' := #[iv xa, iv xb, .val (.long xp), .second, iv xw, iv xc, iv xf, iv nn, iv (Int32.ofNat ev), iv md, .unset, .unset, .unset, .unset, .unset, .unset, .unset, .unset, .unset, .unset, .unset, .unset, .unset]) rfl ?_
  refine XS.iload X0.here hx rfl (hb hby at_25) rfl ?_
  refine XS.bipush X0.here hx rfl (hb hby at_27) ?_
  refine XS.iushr X0.here hx rfl (hb hby at_29) rfl ?_
  refine XS.iconst X0.here hx rfl (hb hby at_30) ?_
  refine XS.iand X0.here hx rfl (hb hby at_31) rfl ?_
  exact kt)
 obtain ⟨sg, hj2, st2⟩ : ∃ (sg : Int32), (True) ∧ own_K p e below s₁ m 40 #[iv xa, iv xb, .val (.long xp), .second, iv xw, iv xc, iv xf, iv nn, iv (Int32.ofNat ev), iv md, .unset, .unset, .unset, .unset, .unset, .unset, .unset, .unset, .unset, .unset, .unset, .unset, .unset] [.int sg] B0 := by
  by_cases qj : (((xf.toUInt32 >>> ((7 : Int32) &&& 31).toUInt32).toInt32) &&& (1 : Int32)) = (0 : Int32)
  ·have st3 : own_K p e below s₁ m 40 #[iv xa, iv xb, .val (.long xp), .second, iv xw, iv xc, iv xf, iv nn, iv (Int32.ofNat ev), iv md, .unset, .unset, .unset, .unset, .unset, .unset, .unset, .unset, .unset, .unset, .unset, .unset, .unset] [.int 0] B0 := fun t kt => st1 t (by
    refine XS.ifYes X0.here hx rfl (pc0 := 32) (pc' := 39) rfl (hb hby at_32) rfl ((if0 _ _).trans (teq qj).1) (by decide) (by decide) ?_
    refine XS.iconst X0.here hx rfl (hb hby at_39) ?_
    exact kt)
   exact ⟨(0 : Int32), trivial, st3⟩
  ·have st4 : own_K p e below s₁ m 40 #[iv xa, iv xb, .val (.long xp), .second, iv xw, iv xc, iv xf, iv nn, iv (Int32.ofNat ev), iv md, .unset, .unset, .unset, .unset, .unset, .unset, .unset, .unset, .unset, .unset, .unset, .unset, .unset] [.int 1] B0 := fun t kt => st1 t (by
    refine XS.ifNo X0.here hx rfl (hb hby at_32) rfl ((if0 _ _).trans (feq qj).1) ?_
    refine XS.iconst X0.here hx rfl (hb hby at_35) ?_
    refine XS.goto X0.here hx rfl (pc0 := 36) (pc' := 40) rfl (hb hby at_36) (by decide) (by decide) ?_
    exact kt)
   exact ⟨(1 : Int32), trivial, st4⟩
 have st5 : own_K p e below s₁ m 49 #[iv xa, iv xb, .val (.long xp), .second, iv xw, iv xc, iv xf, iv nn, iv (Int32.ofNat ev), iv md, iv sg, .unset, .unset, .unset, .unset, .unset, .unset, .unset, .unset, .unset, .unset, .unset, .unset] [(.int (((xf.toUInt32 >>> ((8 : Int32) &&& 31).toUInt32).toInt32) &&& (1 : Int32)))] B0 := fun t kt => st2 t (by
  refine XS.istore X0.here hx rfl (hb hby at_40) rfl (l' := #[iv xa, iv xb, .val (.long xp), .second, iv xw, iv xc, iv xf, iv nn, iv (Int32.ofNat ev), iv md, iv sg, .unset, .unset, .unset, .unset, .unset, .unset, .unset, .unset, .unset, .unset, .unset, .unset]) rfl ?_
  refine XS.iload X0.here hx rfl (hb hby at_42) rfl ?_
  refine XS.bipush X0.here hx rfl (hb hby at_44) ?_
  refine XS.iushr X0.here hx rfl (hb hby at_46) rfl ?_
  refine XS.iconst X0.here hx rfl (hb hby at_47) ?_
  refine XS.iand X0.here hx rfl (hb hby at_48) rfl ?_
  exact kt)
 obtain ⟨dg, hj6, st6⟩ : ∃ (dg : Int32), (True) ∧ own_K p e below s₁ m 57 #[iv xa, iv xb, .val (.long xp), .second, iv xw, iv xc, iv xf, iv nn, iv (Int32.ofNat ev), iv md, iv sg, .unset, .unset, .unset, .unset, .unset, .unset, .unset, .unset, .unset, .unset, .unset, .unset] [.int dg] B0 := by
  by_cases qj : (((xf.toUInt32 >>> ((8 : Int32) &&& 31).toUInt32).toInt32) &&& (1 : Int32)) = (0 : Int32)
  ·have st7 : own_K p e below s₁ m 57 #[iv xa, iv xb, .val (.long xp), .second, iv xw, iv xc, iv xf, iv nn, iv (Int32.ofNat ev), iv md, iv sg, .unset, .unset, .unset, .unset, .unset, .unset, .unset, .unset, .unset, .unset, .unset, .unset] [.int 1] B0 := fun t kt => st5 t (by
    refine XS.ifNo X0.here hx rfl (hb hby at_49) rfl ((if0 _ _).trans (teq qj).2) ?_
    refine XS.iconst X0.here hx rfl (hb hby at_52) ?_
    refine XS.goto X0.here hx rfl (pc0 := 53) (pc' := 57) rfl (hb hby at_53) (by decide) (by decide) ?_
    exact kt)
   exact ⟨(1 : Int32), trivial, st7⟩
  ·have st8 : own_K p e below s₁ m 57 #[iv xa, iv xb, .val (.long xp), .second, iv xw, iv xc, iv xf, iv nn, iv (Int32.ofNat ev), iv md, iv sg, .unset, .unset, .unset, .unset, .unset, .unset, .unset, .unset, .unset, .unset, .unset, .unset] [.int 0] B0 := fun t kt => st5 t (by
    refine XS.ifYes X0.here hx rfl (pc0 := 49) (pc' := 56) rfl (hb hby at_49) rfl ((if0 _ _).trans (feq qj).2) (by decide) (by decide) ?_
    refine XS.iconst X0.here hx rfl (hb hby at_56) ?_
    exact kt)
   exact ⟨(0 : Int32), trivial, st8⟩
 obtain ⟨v1, h_v1⟩ : ∃ z : Int32, z = (xa &&& (1073741823 : Int32)) := ⟨_, rfl⟩
 have e30 : ((2 ^ 30 : Nat) : Int) = 1073741824 := rfl
 have hv1 : 0 ≤ v1.toInt ∧ v1.toInt < 1073741824 := by
  have h1 := c_mask xa 1073741823 30 (by decide) (by decide)
  rw [e30, ← h_v1] at h1
  omega
 have st9 : own_K p e below s₁ m 71 #[iv xa, iv xb, .val (.long xp), .second, iv xw, iv xc, iv xf, iv nn, iv (Int32.ofNat ev), iv md, iv sg, iv dg, iv v1, .unset, .unset, .unset, .unset, .unset, .unset, .unset, .unset, .unset, .unset] [.int sg, (.int (v1 + (1 : Int32)))] B0 := fun t kt => st6 t (by
  refine XS.istore X0.here hx rfl (hb hby at_57) rfl (l' := #[iv xa, iv xb, .val (.long xp), .second, iv xw, iv xc, iv xf, iv nn, iv (Int32.ofNat ev), iv md, iv sg, iv dg, .unset, .unset, .unset, .unset, .unset, .unset, .unset, .unset, .unset, .unset, .unset]) rfl ?_
  refine XS.iloadN X0.here hx rfl (hb hby at_59) rfl ?_
  show own_At p e below s₁ m 60 #[iv xa, iv xb, .val (.long xp), .second, iv xw, iv xc, iv xf, iv nn, iv (Int32.ofNat ev), iv md, iv sg, iv dg, .unset, .unset, .unset, .unset, .unset, .unset, .unset, .unset, .unset, .unset, .unset] [.int xa] _
  refine X0.ldcInt hx hown (mvT hZ (own_w hw 0 rfl)) (g := (mkF m 60 #[iv xa, iv xb, .val (.long xp), .second, iv xw, iv xc, iv xf, iv nn, iv (Int32.ofNat ev), iv md, iv sg, iv dg, .unset, .unset, .unset, .unset, .unset, .unset, .unset, .unset, .unset, .unset, .unset] [.int xa])) rfl (hb hby at_60) _ ?_
  refine XS.iand X0.here hx rfl (hb hby at_62) rfl ?_
  show own_At p e below s₁ m 63 #[iv xa, iv xb, .val (.long xp), .second, iv xw, iv xc, iv xf, iv nn, iv (Int32.ofNat ev), iv md, iv sg, iv dg, .unset, .unset, .unset, .unset, .unset, .unset, .unset, .unset, .unset, .unset, .unset] [(.int (xa &&& (1073741823 : Int32)))] _
  rw [← h_v1]
  refine XS.istore X0.here hx rfl (hb hby at_63) rfl (l' := #[iv xa, iv xb, .val (.long xp), .second, iv xw, iv xc, iv xf, iv nn, iv (Int32.ofNat ev), iv md, iv sg, iv dg, iv v1, .unset, .unset, .unset, .unset, .unset, .unset, .unset, .unset, .unset, .unset]) rfl ?_
  refine XS.iload X0.here hx rfl (hb hby at_65) rfl ?_
  refine XS.iconst X0.here hx rfl (hb hby at_67) ?_
  refine XS.iadd X0.here hx rfl (hb hby at_68) rfl ?_
  refine XS.iload X0.here hx rfl (hb hby at_69) rfl ?_
  exact kt)
 obtain ⟨gp, hj10, st10⟩ : ∃ (gp : Int32), (0 ≤ gp.toInt ∧ gp.toInt < 1073741824) ∧ own_K p e below s₁ m 85 #[iv xa, iv xb, .val (.long xp), .second, iv xw, iv xc, iv xf, iv nn, iv (Int32.ofNat ev), iv md, iv sg, iv dg, iv v1, .unset, .unset, .unset, .unset, .unset, .unset, .unset, .unset, .unset, .unset] [.int gp, (.int (v1 + (1 : Int32)))] B0 := by
  by_cases qj : sg = (0 : Int32)
  ·have st11 : own_K p e below s₁ m 85 #[iv xa, iv xb, .val (.long xp), .second, iv xw, iv xc, iv xf, iv nn, iv (Int32.ofNat ev), iv md, iv sg, iv dg, iv v1, .unset, .unset, .unset, .unset, .unset, .unset, .unset, .unset, .unset, .unset] [(.int (xb &&& (1073741823 : Int32))), (.int (v1 + (1 : Int32)))] B0 := fun t kt => st9 t (by
    refine XS.ifYes X0.here hx rfl (pc0 := 71) (pc' := 81) rfl (hb hby at_71) rfl ((if0 _ _).trans (teq qj).1) (by decide) (by decide) ?_
    refine XS.iloadN X0.here hx rfl (hb hby at_81) rfl ?_
    show own_At p e below s₁ m 82 #[iv xa, iv xb, .val (.long xp), .second, iv xw, iv xc, iv xf, iv nn, iv (Int32.ofNat ev), iv md, iv sg, iv dg, iv v1, .unset, .unset, .unset, .unset, .unset, .unset, .unset, .unset, .unset, .unset] [.int xb, (.int (v1 + (1 : Int32)))] _
    refine X0.ldcInt hx hown (mvT hZ (own_w hw 0 rfl)) (g := (mkF m 82 #[iv xa, iv xb, .val (.long xp), .second, iv xw, iv xc, iv xf, iv nn, iv (Int32.ofNat ev), iv md, iv sg, iv dg, iv v1, .unset, .unset, .unset, .unset, .unset, .unset, .unset, .unset, .unset, .unset] [.int xb, (.int (v1 + (1 : Int32)))])) rfl (hb hby at_82) _ ?_
    refine XS.iand X0.here hx rfl (hb hby at_84) rfl ?_
    exact kt)
   exact ⟨(xb &&& (1073741823 : Int32)), by
    have h1 := c_mask xb 1073741823 30 (by decide) (by decide)
    rw [e30] at h1
    omega, st11⟩
  ·have st12 : own_K p e below s₁ m 85 #[iv xa, iv xb, .val (.long xp), .second, iv xw, iv xc, iv xf, iv nn, iv (Int32.ofNat ev), iv md, iv sg, iv dg, iv v1, .unset, .unset, .unset, .unset, .unset, .unset, .unset, .unset, .unset, .unset] [(.int (xb &&& (63 : Int32))), (.int (v1 + (1 : Int32)))] B0 := fun t kt => st9 t (by
    refine XS.ifNo X0.here hx rfl (hb hby at_71) rfl ((if0 _ _).trans (feq qj).1) ?_
    refine XS.iloadN X0.here hx rfl (hb hby at_74) rfl ?_
    refine XS.bipush X0.here hx rfl (hb hby at_75) ?_
    refine XS.iand X0.here hx rfl (hb hby at_77) rfl ?_
    refine XS.goto X0.here hx rfl (pc0 := 78) (pc' := 85) rfl (hb hby at_78) (by decide) (by decide) ?_
    exact kt)
   exact ⟨(xb &&& (63 : Int32)), by
    have h1 := c_mask xb 63 6 (by decide) (by decide)
    have e : ((2 ^ 6 : Nat) : Int) = 64 := rfl
    rw [e] at h1
    omega, st12⟩
 obtain ⟨v2, h_v2⟩ : ∃ z : Int32, z = ((v1 + (1 : Int32)) + gp) := ⟨_, rfl⟩
 have hv2 : v1.toInt < v2.toInt := by
  have h1 := c_iadd v1 1
  have h2 := c_iadd (v1 + 1) gp
  have e1 : (1 : Int32).toInt = 1 := rfl
  have r1 := rng32 (v1 + 1)
  have r2 := rng32 (v1 + 1 + gp)
  rw [e1] at h1
  rw [h_v2]
  omega
 have p1 := hv1.1
 have p2 : 0 ≤ v2.toInt := by omega
 have hl : v1 < v2 := by rw [Int32.lt_iff_toInt_lt]; exact hv2
 have st13 : own_K p e below s₁ m 90 #[iv xa, iv xb, .val (.long xp), .second, iv xw, iv xc, iv xf, iv nn, iv (Int32.ofNat ev), iv md, iv sg, iv dg, iv v1, iv v2, .unset, .unset, .unset, .unset, .unset, .unset, .unset, .unset, .unset] [.int (xp.toInt32)] B0 := fun t kt => st10 t (by
  refine XS.iadd X0.here hx rfl (hb hby at_85) rfl ?_
  show own_At p e below s₁ m 86 #[iv xa, iv xb, .val (.long xp), .second, iv xw, iv xc, iv xf, iv nn, iv (Int32.ofNat ev), iv md, iv sg, iv dg, iv v1, .unset, .unset, .unset, .unset, .unset, .unset, .unset, .unset, .unset, .unset] [(.int ((v1 + (1 : Int32)) + gp))] _
  rw [← h_v2]
  refine XS.istore X0.here hx rfl (hb hby at_86) rfl (l' := #[iv xa, iv xb, .val (.long xp), .second, iv xw, iv xc, iv xf, iv nn, iv (Int32.ofNat ev), iv md, iv sg, iv dg, iv v1, iv v2, .unset, .unset, .unset, .unset, .unset, .unset, .unset, .unset, .unset]) rfl ?_
  refine XS.lloadN X0.here hx rfl (hb hby at_88) rfl ?_
  refine XS.l2i X0.here hx rfl (hb hby at_89) rfl ?_
  exact kt)
 obtain ⟨_, _, ⟨T14, L14, k14, n14⟩, -, X14, ⟨Lc14, hQ14, l14, y14, z14⟩, ls14⟩ := Jvm.LawKit.callS X0 hx (y := (⟨"com/example/saturation/saturation/OpenNodeEdgesPinLaw", "nz", "(I)I"⟩ : MethodName)) hown (mvT hZ (own_w hw 1 rfl)) (mvT hZ (own_w hw 2 rfl)) (mvT hZ (own_w hw 3 rfl)) (mvT hZ (own_w hw 4 rfl)) (by decide) (backOf (W := 0) (rm_nz l Z a0 hw [] ((xp.toInt32)) h0 n0 Z0) hZ (own_w hw 4 rfl) (own_w hw 3 rfl) (by decide) (by decide)) (g := (mkF m 90 #[iv xa, iv xb, .val (.long xp), .second, iv xw, iv xc, iv xf, iv nn, iv (Int32.ofNat ev), iv md, iv sg, iv dg, iv v1, iv v2, .unset, .unset, .unset, .unset, .unset, .unset, .unset, .unset, .unset] [.int (xp.toInt32)])) rfl (by rw [hml]; rfl) (argsL := [.int (xp.toInt32)]) (rest := []) (lenOf own_pd5 rfl) rfl (by show 2 * 0 + _ ≤ _; exact Nat.le_of_eq rfl) (hb hby at_90) (fun _ _ => ⟨rfl, e0, (by decide : 0 + 0 ≤ _), (by decide : 0 + 0 ≤ _)⟩)
 dsimp only [Pt.U, Pt.locs, Pt.cells, Pt.slots] at X14 l14 y14 z14 ls14 hQ14
 subst l14 y14 z14
 obtain ⟨rfl, Nq14, eq14⟩ := hQ14
 have N14 := Fr.app N0 Nq14
 have st15 := fun t kt => st13 t (ls14 t kt)
 obtain ⟨c1, h_c1⟩ : ∃ z : Int32, z = (own_nz (xp.toInt32)) := ⟨_, rfl⟩
 have zc1 : c1 ≠ 0 := by rw [h_c1]; exact own_nz_ne _
 have st16 : own_K p e below T14 m 100 #[iv xa, iv xb, .val (.long xp), .second, iv xw, iv xc, iv xf, iv nn, iv (Int32.ofNat ev), iv md, iv sg, iv dg, iv v1, iv v2, iv c1, .unset, .unset, .unset, .unset, .unset, .unset, .unset, .unset] [(.int (((xp.toUInt64 >>> ((32 : Int32) &&& 0x3f).toInt64.toUInt64).toInt64).toInt32))] B0 := fun t kt => st15 t (by
  show own_At p e below T14 m 93 #[iv xa, iv xb, .val (.long xp), .second, iv xw, iv xc, iv xf, iv nn, iv (Int32.ofNat ev), iv md, iv sg, iv dg, iv v1, iv v2, .unset, .unset, .unset, .unset, .unset, .unset, .unset, .unset, .unset] [(.int (own_nz (xp.toInt32)))] _
  rw [← h_c1]
  refine XS.istore X14.here hx rfl (hb hby at_93) rfl (l' := #[iv xa, iv xb, .val (.long xp), .second, iv xw, iv xc, iv xf, iv nn, iv (Int32.ofNat ev), iv md, iv sg, iv dg, iv v1, iv v2, iv c1, .unset, .unset, .unset, .unset, .unset, .unset, .unset, .unset]) rfl ?_
  refine XS.lloadN X14.here hx rfl (hb hby at_95) rfl ?_
  refine XS.bipush X14.here hx rfl (hb hby at_96) ?_
  refine XS.lushr X14.here hx rfl (hb hby at_98) rfl ?_
  refine XS.l2i X14.here hx rfl (hb hby at_99) rfl ?_
  exact kt)
 obtain ⟨_, _, ⟨T17, L17, k17, n17⟩, -, X17, ⟨Lc17, hQ17, l17, y17, z17⟩, ls17⟩ := Jvm.LawKit.callS X14 hx (y := (⟨"com/example/saturation/saturation/OpenNodeEdgesPinLaw", "nz", "(I)I"⟩ : MethodName)) hown (mvT hZ (own_w hw 1 rfl)) (mvT hZ (own_w hw 2 rfl)) (mvT hZ (own_w hw 3 rfl)) (mvT hZ (own_w hw 4 rfl)) (by decide) (backOf (W := 0) (rm_nz l Z a0 hw [] ((((xp.toUInt64 >>> ((32 : Int32) &&& 0x3f).toInt64.toUInt64).toInt64).toInt32)) h0 n0 Z0) hZ (own_w hw 4 rfl) (own_w hw 3 rfl) (by decide) (by decide)) (g := (mkF m 100 #[iv xa, iv xb, .val (.long xp), .second, iv xw, iv xc, iv xf, iv nn, iv (Int32.ofNat ev), iv md, iv sg, iv dg, iv v1, iv v2, iv c1, .unset, .unset, .unset, .unset, .unset, .unset, .unset, .unset] [(.int (((xp.toUInt64 >>> ((32 : Int32) &&& 0x3f).toInt64.toUInt64).toInt64).toInt32))])) rfl (by rw [hml]; rfl) (argsL := [(.int (((xp.toUInt64 >>> ((32 : Int32) &&& 0x3f).toInt64.toUInt64).toInt64).toInt32))]) (rest := []) (lenOf own_pd5 rfl) rfl (by show 2 * 0 + _ ≤ _; exact Nat.le_of_eq rfl) (hb hby at_100) (fun _ _ => ⟨rfl, eq14, (by decide : 0 + 0 ≤ _), (by decide : 0 + 0 ≤ _)⟩)
 dsimp only [Pt.U, Pt.locs, Pt.cells, Pt.slots] at X17 l17 y17 z17 ls17 hQ17
 subst l17 y17 z17
 obtain ⟨rfl, Nq17, eq17⟩ := hQ17
 have N17 := Fr.app N14 Nq17
 have st18 := fun t kt => st16 t (ls17 t kt)
 obtain ⟨c2, h_c2⟩ : ∃ z : Int32, z = (own_nz (((xp.toUInt64 >>> ((32 : Int32) &&& 0x3f).toInt64.toUInt64).toInt64).toInt32)) := ⟨_, rfl⟩
 have zc2 : c2 ≠ 0 := by rw [h_c2]; exact own_nz_ne _
 have st19 : own_K p e below T17 m 107 #[iv xa, iv xb, .val (.long xp), .second, iv xw, iv xc, iv xf, iv nn, iv (Int32.ofNat ev), iv md, iv sg, iv dg, iv v1, iv v2, iv c1, iv c2, .unset, .unset, .unset, .unset, .unset, .unset, .unset] [.int xc] B0 := fun t kt => st18 t (by
  show own_At p e below T17 m 103 #[iv xa, iv xb, .val (.long xp), .second, iv xw, iv xc, iv xf, iv nn, iv (Int32.ofNat ev), iv md, iv sg, iv dg, iv v1, iv v2, iv c1, .unset, .unset, .unset, .unset, .unset, .unset, .unset, .unset] [(.int (own_nz (((xp.toUInt64 >>> ((32 : Int32) &&& 0x3f).toInt64.toUInt64).toInt64).toInt32)))] _
  rw [← h_c2]
  refine XS.istore X17.here hx rfl (hb hby at_103) rfl (l' := #[iv xa, iv xb, .val (.long xp), .second, iv xw, iv xc, iv xf, iv nn, iv (Int32.ofNat ev), iv md, iv sg, iv dg, iv v1, iv v2, iv c1, iv c2, .unset, .unset, .unset, .unset, .unset, .unset, .unset]) rfl ?_
  refine XS.iload X17.here hx rfl (hb hby at_105) rfl ?_
  exact kt)
 obtain ⟨_, _, ⟨T20, L20, k20, n20⟩, -, X20, ⟨Lc20, hQ20, l20, y20, z20⟩, ls20⟩ := Jvm.LawKit.callS X17 hx (y := (⟨"com/example/saturation/saturation/OpenNodeEdgesPinLaw", "nz", "(I)I"⟩ : MethodName)) hown (mvT hZ (own_w hw 1 rfl)) (mvT hZ (own_w hw 2 rfl)) (mvT hZ (own_w hw 3 rfl)) (mvT hZ (own_w hw 4 rfl)) (by decide) (backOf (W := 0) (rm_nz l Z a0 hw [] xc h0 n0 Z0) hZ (own_w hw 4 rfl) (own_w hw 3 rfl) (by decide) (by decide)) (g := (mkF m 107 #[iv xa, iv xb, .val (.long xp), .second, iv xw, iv xc, iv xf, iv nn, iv (Int32.ofNat ev), iv md, iv sg, iv dg, iv v1, iv v2, iv c1, iv c2, .unset, .unset, .unset, .unset, .unset, .unset, .unset] [.int xc])) rfl (by rw [hml]; rfl) (argsL := [.int xc]) (rest := []) (lenOf own_pd5 rfl) rfl (by show 2 * 0 + _ ≤ _; exact Nat.le_of_eq rfl) (hb hby at_107) (fun _ _ => ⟨rfl, eq17, (by decide : 0 + 0 ≤ _), (by decide : 0 + 0 ≤ _)⟩)
 dsimp only [Pt.U, Pt.locs, Pt.cells, Pt.slots] at X20 l20 y20 z20 ls20 hQ20
 subst l20 y20 z20
 obtain ⟨rfl, Nq20, eq20⟩ := hQ20
 have N20 := Fr.app N17 Nq20
 have st21 := fun t kt => st19 t (ls20 t kt)
 obtain ⟨c3, h_c3⟩ : ∃ z : Int32, z = (own_nz xc) := ⟨_, rfl⟩
 have zc3 : c3 ≠ 0 := by rw [h_c3]; exact own_nz_ne _
 have st22 : own_K p e below T20 m 115 #[iv xa, iv xb, .val (.long xp), .second, iv xw, iv xc, iv xf, iv nn, iv (Int32.ofNat ev), iv md, iv sg, iv dg, iv v1, iv v2, iv c1, iv c2, iv c3, .unset, .unset, .unset, .unset, .unset, .unset] [.int 1, .int md] B0 := fun t kt => st21 t (by
  show own_At p e below T20 m 110 #[iv xa, iv xb, .val (.long xp), .second, iv xw, iv xc, iv xf, iv nn, iv (Int32.ofNat ev), iv md, iv sg, iv dg, iv v1, iv v2, iv c1, iv c2, .unset, .unset, .unset, .unset, .unset, .unset, .unset] [.int (own_nz xc)] _
  rw [← h_c3]
  refine XS.istore X20.here hx rfl (hb hby at_110) rfl (l' := #[iv xa, iv xb, .val (.long xp), .second, iv xw, iv xc, iv xf, iv nn, iv (Int32.ofNat ev), iv md, iv sg, iv dg, iv v1, iv v2, iv c1, iv c2, iv c3, .unset, .unset, .unset, .unset, .unset, .unset]) rfl ?_
  refine XS.iload X20.here hx rfl (hb hby at_112) rfl ?_
  refine XS.iconst X20.here hx rfl (hb hby at_114) ?_
  exact kt)
 obtain ⟨uw, hj23, st23⟩ : ∃ (uw : Int32), (0 ≤ uw.toInt) ∧ own_K p e below T20 m 189 #[iv xa, iv xb, .val (.long xp), .second, iv xw, iv xc, iv xf, iv nn, iv (Int32.ofNat ev), iv md, iv sg, iv dg, iv v1, iv v2, iv c1, iv c2, iv c3, iv uw, .unset, .unset, .unset, .unset, .unset] [] B0 := by
  by_cases m1 : md = (1 : Int32)
  ·have st24 : own_K p e below T20 m 189 #[iv xa, iv xb, .val (.long xp), .second, iv xw, iv xc, iv xf, iv nn, iv (Int32.ofNat ev), iv md, iv sg, iv dg, iv v1, iv v2, iv c1, iv c2, iv c3, iv v1, .unset, .unset, .unset, .unset, .unset] [] B0 := fun t kt => st22 t (by
    refine XS.icmpNo X20.here hx rfl (hb hby at_115) rfl (teq m1).2 ?_
    refine XS.iload X20.here hx rfl (hb hby at_118) rfl ?_
    refine XS.istore X20.here hx rfl (hb hby at_120) rfl (l' := #[iv xa, iv xb, .val (.long xp), .second, iv xw, iv xc, iv xf, iv nn, iv (Int32.ofNat ev), iv md, iv sg, iv dg, iv v1, iv v2, iv c1, iv c2, iv c3, iv v1, .unset, .unset, .unset, .unset, .unset]) rfl ?_
    refine XS.goto X20.here hx rfl (pc0 := 122) (pc' := 189) rfl (hb hby at_122) (by decide) (by decide) ?_
    exact kt)
   exact ⟨v1, p1, st24⟩
  ·have st25 : own_K p e below T20 m 128 #[iv xa, iv xb, .val (.long xp), .second, iv xw, iv xc, iv xf, iv nn, iv (Int32.ofNat ev), iv md, iv sg, iv dg, iv v1, iv v2, iv c1, iv c2, iv c3, .unset, .unset, .unset, .unset, .unset, .unset] [.int 2, .int md] B0 := fun t kt => st22 t (by
    refine XS.icmpYes X20.here hx rfl (pc0 := 115) (pc' := 125) rfl (hb hby at_115) rfl (feq m1).2 (by decide) (by decide) ?_
    refine XS.iload X20.here hx rfl (hb hby at_125) rfl ?_
    refine XS.iconst X20.here hx rfl (hb hby at_127) ?_
    exact kt)
   by_cases m2 : md = (2 : Int32)
   ·have st26 : own_K p e below T20 m 189 #[iv xa, iv xb, .val (.long xp), .second, iv xw, iv xc, iv xf, iv nn, iv (Int32.ofNat ev), iv md, iv sg, iv dg, iv v1, iv v2, iv c1, iv c2, iv c3, iv v2, .unset, .unset, .unset, .unset, .unset] [] B0 := fun t kt => st25 t (by
     refine XS.icmpNo X20.here hx rfl (hb hby at_128) rfl (teq m2).2 ?_
     refine XS.iload X20.here hx rfl (hb hby at_131) rfl ?_
     refine XS.istore X20.here hx rfl (hb hby at_133) rfl (l' := #[iv xa, iv xb, .val (.long xp), .second, iv xw, iv xc, iv xf, iv nn, iv (Int32.ofNat ev), iv md, iv sg, iv dg, iv v1, iv v2, iv c1, iv c2, iv c3, iv v2, .unset, .unset, .unset, .unset, .unset]) rfl ?_
     refine XS.goto X20.here hx rfl (pc0 := 135) (pc' := 189) rfl (hb hby at_135) (by decide) (by decide) ?_
     exact kt)
    exact ⟨v2, p2, st26⟩
   ·have st27 : own_K p e below T20 m 141 #[iv xa, iv xb, .val (.long xp), .second, iv xw, iv xc, iv xf, iv nn, iv (Int32.ofNat ev), iv md, iv sg, iv dg, iv v1, iv v2, iv c1, iv c2, iv c3, .unset, .unset, .unset, .unset, .unset, .unset] [.int 3, .int md] B0 := fun t kt => st25 t (by
     refine XS.icmpYes X20.here hx rfl (pc0 := 128) (pc' := 138) rfl (hb hby at_128) rfl (feq m2).2 (by decide) (by decide) ?_
     refine XS.iload X20.here hx rfl (hb hby at_138) rfl ?_
     refine XS.iconst X20.here hx rfl (hb hby at_140) ?_
     exact kt)
    by_cases m3 : md = (3 : Int32)
    ·have st28 : own_K p e below T20 m 189 #[iv xa, iv xb, .val (.long xp), .second, iv xw, iv xc, iv xf, iv nn, iv (Int32.ofNat ev), iv md, iv sg, iv dg, iv v1, iv v2, iv c1, iv c2, iv c3, iv ((v1 &&& (-64 : Int32)) ||| (xw &&& (63 : Int32))), .unset, .unset, .unset, .unset, .unset] [] B0 := fun t kt => st27 t (by
      refine XS.icmpNo X20.here hx rfl (hb hby at_141) rfl (teq m3).2 ?_
      refine XS.iload X20.here hx rfl (hb hby at_144) rfl ?_
      refine XS.bipush X20.here hx rfl (hb hby at_146) ?_
      refine XS.iand X20.here hx rfl (hb hby at_148) rfl ?_
      refine XS.iload X20.here hx rfl (hb hby at_149) rfl ?_
      refine XS.bipush X20.here hx rfl (hb hby at_151) ?_
      refine XS.iand X20.here hx rfl (hb hby at_153) rfl ?_
      refine XS.ior X20.here hx rfl (hb hby at_154) rfl ?_
      refine XS.istore X20.here hx rfl (hb hby at_155) rfl (l' := #[iv xa, iv xb, .val (.long xp), .second, iv xw, iv xc, iv xf, iv nn, iv (Int32.ofNat ev), iv md, iv sg, iv dg, iv v1, iv v2, iv c1, iv c2, iv c3, iv ((v1 &&& (-64 : Int32)) ||| (xw &&& (63 : Int32))), .unset, .unset, .unset, .unset, .unset]) rfl ?_
      refine XS.goto X20.here hx rfl (pc0 := 157) (pc' := 189) rfl (hb hby at_157) (by decide) (by decide) ?_
      exact kt)
     exact ⟨((v1 &&& (-64 : Int32)) ||| (xw &&& (63 : Int32))), own_or_nn (own_and_nn p1) (by have h1 := c_mask xw 63 6 (by decide) (by decide); have e6 : ((2 ^ 6 : Nat) : Int) = 64 := rfl; rw [e6] at h1; omega), st28⟩
    ·have st29 : own_K p e below T20 m 163 #[iv xa, iv xb, .val (.long xp), .second, iv xw, iv xc, iv xf, iv nn, iv (Int32.ofNat ev), iv md, iv sg, iv dg, iv v1, iv v2, iv c1, iv c2, iv c3, .unset, .unset, .unset, .unset, .unset, .unset] [.int 4, .int md] B0 := fun t kt => st27 t (by
      refine XS.icmpYes X20.here hx rfl (pc0 := 141) (pc' := 160) rfl (hb hby at_141) rfl (feq m3).2 (by decide) (by decide) ?_
      refine XS.iload X20.here hx rfl (hb hby at_160) rfl ?_
      refine XS.iconst X20.here hx rfl (hb hby at_162) ?_
      exact kt)
     by_cases m4 : md = (4 : Int32)
     ·have st30 : own_K p e below T20 m 189 #[iv xa, iv xb, .val (.long xp), .second, iv xw, iv xc, iv xf, iv nn, iv (Int32.ofNat ev), iv md, iv sg, iv dg, iv v1, iv v2, iv c1, iv c2, iv c3, iv ((v2 &&& (-64 : Int32)) ||| (xw &&& (63 : Int32))), .unset, .unset, .unset, .unset, .unset] [] B0 := fun t kt => st29 t (by
       refine XS.icmpNo X20.here hx rfl (hb hby at_163) rfl (teq m4).2 ?_
       refine XS.iload X20.here hx rfl (hb hby at_166) rfl ?_
       refine XS.bipush X20.here hx rfl (hb hby at_168) ?_
       refine XS.iand X20.here hx rfl (hb hby at_170) rfl ?_
       refine XS.iload X20.here hx rfl (hb hby at_171) rfl ?_
       refine XS.bipush X20.here hx rfl (hb hby at_173) ?_
       refine XS.iand X20.here hx rfl (hb hby at_175) rfl ?_
       refine XS.ior X20.here hx rfl (hb hby at_176) rfl ?_
       refine XS.istore X20.here hx rfl (hb hby at_177) rfl (l' := #[iv xa, iv xb, .val (.long xp), .second, iv xw, iv xc, iv xf, iv nn, iv (Int32.ofNat ev), iv md, iv sg, iv dg, iv v1, iv v2, iv c1, iv c2, iv c3, iv ((v2 &&& (-64 : Int32)) ||| (xw &&& (63 : Int32))), .unset, .unset, .unset, .unset, .unset]) rfl ?_
       refine XS.goto X20.here hx rfl (pc0 := 179) (pc' := 189) rfl (hb hby at_179) (by decide) (by decide) ?_
       exact kt)
      exact ⟨((v2 &&& (-64 : Int32)) ||| (xw &&& (63 : Int32))), own_or_nn (own_and_nn p2) (by have h1 := c_mask xw 63 6 (by decide) (by decide); have e6 : ((2 ^ 6 : Nat) : Int) = 64 := rfl; rw [e6] at h1; omega), st30⟩
     ·have st31 : own_K p e below T20 m 189 #[iv xa, iv xb, .val (.long xp), .second, iv xw, iv xc, iv xf, iv nn, iv (Int32.ofNat ev), iv md, iv sg, iv dg, iv v1, iv v2, iv c1, iv c2, iv c3, iv (xw &&& (2147483647 : Int32)), .unset, .unset, .unset, .unset, .unset] [] B0 := fun t kt => st29 t (by
       refine XS.icmpYes X20.here hx rfl (pc0 := 163) (pc' := 182) rfl (hb hby at_163) rfl (feq m4).2 (by decide) (by decide) ?_
       refine XS.iload X20.here hx rfl (hb hby at_182) rfl ?_
       show own_At p e below T20 m 184 #[iv xa, iv xb, .val (.long xp), .second, iv xw, iv xc, iv xf, iv nn, iv (Int32.ofNat ev), iv md, iv sg, iv dg, iv v1, iv v2, iv c1, iv c2, iv c3, .unset, .unset, .unset, .unset, .unset, .unset] [.int xw] _
       refine X20.ldcInt hx hown (mvT hZ (own_w hw 5 rfl)) (g := (mkF m 184 #[iv xa, iv xb, .val (.long xp), .second, iv xw, iv xc, iv xf, iv nn, iv (Int32.ofNat ev), iv md, iv sg, iv dg, iv v1, iv v2, iv c1, iv c2, iv c3, .unset, .unset, .unset, .unset, .unset, .unset] [.int xw])) rfl (hb hby at_184) _ ?_
       refine XS.iand X20.here hx rfl (hb hby at_186) rfl ?_
       refine XS.istore X20.here hx rfl (hb hby at_187) rfl (l' := #[iv xa, iv xb, .val (.long xp), .second, iv xw, iv xc, iv xf, iv nn, iv (Int32.ofNat ev), iv md, iv sg, iv dg, iv v1, iv v2, iv c1, iv c2, iv c3, iv (xw &&& (2147483647 : Int32)), .unset, .unset, .unset, .unset, .unset]) rfl ?_
       exact kt)
      exact ⟨(xw &&& (2147483647 : Int32)), by have h1 := c_mask xw 2147483647 31 (by decide) (by decide); have e31 : ((2 ^ 31 : Nat) : Int) = 2147483648 := rfl; rw [e31] at h1; omega, st31⟩
 obtain ⟨ao, ex, ae, nb, cap, K, S, Ch, F, nI, cn, fx, T32, L32, X32, N32, Z32, Nn, Aex, hP, st32⟩ : ∃ (ao : Addr) (ex : Addr) (ae : Addr) (nb : Nat) (cap : Nat) (K : Nat → Int32) (S : Nat → Nat) (Ch : Nat → Int32) (F : Nat → Int32) (nI : Int32) (cn : Nat) (fx : Nat → Value) (T32 : State) (L' : List Loc), Stand p l e room_1 s m #[.int xa, .int xb, .long xp, .int xw, .int xc, .int xf] below meth c T32 L' 12 178 ∧ Fr n0 L' ∧ n0 ≤ T32.heap.size ∧ (own_N Z T32.heap ao ao nb cap K S Ch nI (-1) ev) ∧ (own_Av Z T32.heap ex .int 6 fx) ∧ ((∃ k, own_St nb K S Ch F k) ∧ ex < ao ∧ n0 ≤ ao ∧ (nb = 0 ∨ nb = 1 ∨ nb = 2) ∧ nb ≤ cap ∧ 1 ≤ cap ∧ cap ≤ 2 ∧ (∀ x, 64 * nb ≤ x → x < 64 * cap → Ch x = 0) ∧ own_Fin nI F uw c3 dg cn fx) ∧ own_K p e below T32 m 552 #[iv xa, iv xb, .val (.long xp), .second, iv xw, iv xc, iv xf, iv nI, iv (Int32.ofNat ev), iv md, iv sg, iv dg, iv v1, iv v2, iv c1, iv c2, iv c3, iv uw, rv ae, rv ex, iv (Int32.ofNat (2 * cn)), .unset, .unset] [.ref ao] B0 := by
  rcases hn with hn | hn | hn
  ·subst hn
   have hc33 : (0 : Int32) = (0 : Int32) := by decide
   have st34 : own_K p e below T20 m 195 #[iv xa, iv xb, .val (.long xp), .second, iv xw, iv xc, iv xf, iv 0, iv (Int32.ofNat ev), iv md, iv sg, iv dg, iv v1, iv v2, iv c1, iv c2, iv c3, iv uw, .unset, .unset, .unset, .unset, .unset] [.int 0] B0 := fun t kt => st23 t (by
    refine XS.iload X20.here hx rfl (hb hby at_189) rfl ?_
    refine XS.ifNo X20.here hx rfl (hb hby at_191) rfl ((if0 _ _).trans (teq hc33).2) ?_
    refine XS.iconst X20.here hx rfl (hb hby at_194) ?_
    exact kt)
   obtain ⟨T35, h35, c35, X35, e35, E35, A35, ls35⟩ := newP X20 hx hZ (own_w hw 6 rfl) eq20 (g := (mkF m 195 #[iv xa, iv xb, .val (.long xp), .second, iv xw, iv xc, iv xf, iv 0, iv (Int32.ofNat ev), iv md, iv sg, iv dg, iv v1, iv v2, iv c1, iv c2, iv c3, iv uw, .unset, .unset, .unset, .unset, .unset] [.int 0])) rfl (hb hby at_195) rfl (by decide) (cap := 0) (by decide) (by decide) (by decide) (by decide)
   obtain ⟨ae, g35⟩ : ∃ z, z = h0.size := ⟨_, rfl⟩
   rw [← g35] at A35 ls35
   have g_ae : n0 ≤ ae := Nat.le_trans Z0 (Nat.le_of_eq g35.symm)
   have z36 := Nat.le_trans Z0 E35.1
   have f37 : own_Av Z h35 ae .int 0 (fun _ => (.int 0)) := own_Av.new A35 (by decide) (by decide)
   have st38 := fun t kt => st34 t (ls35 t kt)
   have st39 : own_K p e below T35 m 253 #[iv xa, iv xb, .val (.long xp), .second, iv xw, iv xc, iv xf, iv 0, iv (Int32.ofNat ev), iv md, iv sg, iv dg, iv v1, iv v2, iv c1, iv c2, iv c3, iv uw, rv ae, .unset, .unset, .unset, .unset] [.int 6] B0 := fun t kt => st38 t (by
    refine XS.astore X35.here hx rfl (hb hby at_197) rfl rfl (l' := #[iv xa, iv xb, .val (.long xp), .second, iv xw, iv xc, iv xf, iv 0, iv (Int32.ofNat ev), iv md, iv sg, iv dg, iv v1, iv v2, iv c1, iv c2, iv c3, iv uw, rv ae, .unset, .unset, .unset, .unset]) rfl ?_
    refine XS.goto X35.here hx rfl (pc0 := 199) (pc' := 251) rfl (hb hby at_199) (by decide) (by decide) ?_
    refine XS.bipush X35.here hx rfl (hb hby at_251) ?_
    exact kt)
   obtain ⟨T40, h40, c40, X40, e40, E40, A40, ls40⟩ := newP X35 hx hZ (own_w hw 6 rfl) e35 (g := (mkF m 253 #[iv xa, iv xb, .val (.long xp), .second, iv xw, iv xc, iv xf, iv 0, iv (Int32.ofNat ev), iv md, iv sg, iv dg, iv v1, iv v2, iv c1, iv c2, iv c3, iv uw, rv ae, .unset, .unset, .unset, .unset] [.int 6])) rfl (hb hby at_253) rfl (by decide) (cap := 6) (by decide) (by decide) (by decide) (by decide)
   obtain ⟨ex, g40⟩ : ∃ z, z = h35.size := ⟨_, rfl⟩
   rw [← g40] at A40 ls40
   have ne_ae_ex : ae ≠ ex := Nat.ne_of_lt (Nat.lt_of_lt_of_le f37.lt (Nat.le_of_eq g40.symm))
   have g_ex : n0 ≤ ex := Nat.le_trans z36 (Nat.le_of_eq g40.symm)
   have f41 := f37.ext E40
   have z42 := Nat.le_trans z36 E40.1
   have f43 : own_Av Z h40 ex .int 6 (fun _ => (.int 0)) := own_Av.new A40 (by decide) (by decide)
   have st44 := fun t kt => st39 t (ls40 t kt)
   have hc45 : (0 : Int32) < (1 : Int32) := by decide
   have hc46 : ¬ ((0 : Int32) = (2 : Int32)) := by decide
   have st47 : own_K p e below T40 m 297 #[iv xa, iv xb, .val (.long xp), .second, iv xw, iv xc, iv xf, iv 0, iv (Int32.ofNat ev), iv md, iv sg, iv dg, iv v1, iv v2, iv c1, iv c2, iv c3, iv uw, rv ae, rv ex, iv (Int32.ofNat (2 * 0)), .unset, .unset] [.int dg] B0 := fun t kt => st44 t (by
    refine XS.astore X40.here hx rfl (hb hby at_255) rfl rfl (l' := #[iv xa, iv xb, .val (.long xp), .second, iv xw, iv xc, iv xf, iv 0, iv (Int32.ofNat ev), iv md, iv sg, iv dg, iv v1, iv v2, iv c1, iv c2, iv c3, iv uw, rv ae, rv ex, .unset, .unset, .unset]) rfl ?_
    refine XS.iconst X40.here hx rfl (hb hby at_257) ?_
    refine XS.iload X40.here hx rfl (hb hby at_258) rfl ?_
    refine XS.imul X40.here hx rfl (hb hby at_260) rfl ?_
    show own_At p e below T40 m 261 #[iv xa, iv xb, .val (.long xp), .second, iv xw, iv xc, iv xf, iv 0, iv (Int32.ofNat ev), iv md, iv sg, iv dg, iv v1, iv v2, iv c1, iv c2, iv c3, iv uw, rv ae, rv ex, .unset, .unset, .unset] [(.int ((2 : Int32) * (0 : Int32)))] _
    rw [show ((2 : Int32) * (0 : Int32)) = (Int32.ofNat (2 * 0)) from (by decide)]
    refine XS.istore X40.here hx rfl (hb hby at_261) rfl (l' := #[iv xa, iv xb, .val (.long xp), .second, iv xw, iv xc, iv xf, iv 0, iv (Int32.ofNat ev), iv md, iv sg, iv dg, iv v1, iv v2, iv c1, iv c2, iv c3, iv uw, rv ae, rv ex, iv (Int32.ofNat (2 * 0)), .unset, .unset]) rfl ?_
    refine XS.iload X40.here hx rfl (hb hby at_263) rfl ?_
    refine XS.iconst X40.here hx rfl (hb hby at_265) ?_
    refine XS.icmpYes X40.here hx rfl (pc0 := 266) (pc' := 279) rfl (hb hby at_266) rfl (tlt hc45).1 (by decide) (by decide) ?_
    refine XS.iload X40.here hx rfl (hb hby at_279) rfl ?_
    refine XS.iconst X40.here hx rfl (hb hby at_281) ?_
    refine XS.icmpYes X40.here hx rfl (pc0 := 282) (pc' := 295) rfl (hb hby at_282) rfl (feq hc46).2 (by decide) (by decide) ?_
    refine XS.iload X40.here hx rfl (hb hby at_295) rfl ?_
    exact kt)
   obtain ⟨cn, fx, T48, L48, X48, N48, Z48, Aae, Aex, hF, st48⟩ : ∃ (cn : Nat) (fx : Nat → Value) (T48 : State) (L' : List Loc), Stand p l e room_1 s m #[.int xa, .int xb, .long xp, .int xw, .int xc, .int xf] below meth c T48 L' 2 10 ∧ Fr n0 L' ∧ n0 ≤ T48.heap.size ∧ (own_Av Z T48.heap ae .int 0 (fun _ => (.int 0))) ∧ (own_Av Z T48.heap ex .int 6 fx) ∧ (own_Fin 0 own_F0 uw c3 dg cn fx) ∧ own_K p e below T48 m 541 #[iv xa, iv xb, .val (.long xp), .second, iv xw, iv xc, iv xf, iv 0, iv (Int32.ofNat ev), iv md, iv sg, iv dg, iv v1, iv v2, iv c1, iv c2, iv c3, iv uw, rv ae, rv ex, iv (Int32.ofNat (2 * cn)), .unset, .unset] [] B0 := by
    by_cases qd : dg = (0 : Int32)
    ·have st49 : own_K p e below T40 m 541 #[iv xa, iv xb, .val (.long xp), .second, iv xw, iv xc, iv xf, iv 0, iv (Int32.ofNat ev), iv md, iv sg, iv dg, iv v1, iv v2, iv c1, iv c2, iv c3, iv uw, rv ae, rv ex, iv (Int32.ofNat (2 * 0)), .unset, .unset] [] B0 := fun t kt => st47 t (by
      refine XS.ifYes X40.here hx rfl (pc0 := 297) (pc' := 541) rfl (hb hby at_297) rfl ((if0 _ _).trans (teq qd).1) (by decide) (by decide) ?_
      exact kt)
     exact ⟨0, (fun _ => (.int 0)), _, _, X40.more (by decide) (by decide), N20, (by rw [e40]; exact z42), (by rw [e40]; exact f41), (by rw [e40]; exact f43), (own_b00 qd  ), st49⟩
    ·have hc50 : (0 : Int32) < (1 : Int32) := by decide
     have hc51 : ¬ ((0 : Int32) = (2 : Int32)) := by decide
     have hc52 : (0 : Int32) = (0 : Int32) := by decide
     have st53 : own_K p e below T40 m 356 #[iv xa, iv xb, .val (.long xp), .second, iv xw, iv xc, iv xf, iv 0, iv (Int32.ofNat ev), iv md, iv sg, iv dg, iv v1, iv v2, iv c1, iv c2, iv c3, iv uw, rv ae, rv ex, iv (Int32.ofNat (2 * 0)), .unset, .unset] [.int c3, .int uw, .int 0, .ref ex] B0 := fun t kt => st47 t (by
      refine XS.ifNo X40.here hx rfl (hb hby at_297) rfl ((if0 _ _).trans (feq qd).1) ?_
      refine XS.iload X40.here hx rfl (hb hby at_300) rfl ?_
      refine XS.iconst X40.here hx rfl (hb hby at_302) ?_
      refine XS.icmpYes X40.here hx rfl (pc0 := 303) (pc' := 322) rfl (hb hby at_303) rfl (tlt hc50).1 (by decide) (by decide) ?_
      refine XS.iload X40.here hx rfl (hb hby at_322) rfl ?_
      refine XS.iconst X40.here hx rfl (hb hby at_324) ?_
      refine XS.icmpYes X40.here hx rfl (pc0 := 325) (pc' := 344) rfl (hb hby at_325) rfl (feq hc51).2 (by decide) (by decide) ?_
      refine XS.iload X40.here hx rfl (hb hby at_344) rfl ?_
      refine XS.ifNo X40.here hx rfl (hb hby at_346) rfl ((if0 _ _).trans (teq hc52).2) ?_
      refine XS.aload X40.here hx rfl (hb hby at_349) rfl rfl ?_
      refine XS.iconst X40.here hx rfl (hb hby at_351) ?_
      refine XS.iload X40.here hx rfl (hb hby at_352) rfl ?_
      refine XS.iload X40.here hx rfl (hb hby at_354) rfl ?_
      exact kt)
     obtain ⟨_, _, ⟨T54, L54, k54, n54⟩, -, X54, ⟨Lc54, hQ54, l54, y54, z54⟩, ls54⟩ := Jvm.LawKit.callS X40 hx (y := (⟨"com/example/saturation/saturation/OpenNodeEdgesPinLaw", "put", "([IIII)V"⟩ : MethodName)) hown (mvT hZ (own_w hw 7 rfl)) (mvT hZ (own_w hw 8 rfl)) (mvT hZ (own_w hw 3 rfl)) (mvT hZ (own_w hw 9 rfl)) (by decide) (backOf (W := 0) (rm_put l Z a0 hw [] ex uw c3 0 ((fun _ => (.int 0))) h40 n0 z42 g_ex f43 (by decide)) hZ (own_w hw 9 rfl) (own_w hw 3 rfl) (by decide) (by decide)) (g := (mkF m 356 #[iv xa, iv xb, .val (.long xp), .second, iv xw, iv xc, iv xf, iv 0, iv (Int32.ofNat ev), iv md, iv sg, iv dg, iv v1, iv v2, iv c1, iv c2, iv c3, iv uw, rv ae, rv ex, iv (Int32.ofNat (2 * 0)), .unset, .unset] [.int c3, .int uw, .int 0, .ref ex])) rfl (by rw [hml]; rfl) (argsL := [.ref ex, .int 0, .int uw, .int c3]) (rest := []) (lenOf own_pd7 rfl) rfl (by show 2 * 0 + _ ≤ _; exact Nat.le_of_eq rfl) (hb hby at_356) (fun _ _ => ⟨rfl, e40, (by decide : 2 + 0 ≤ _), (by decide : 6 + 0 ≤ _)⟩)
     dsimp only [Pt.U, Pt.locs, Pt.cells, Pt.slots] at X54 l54 y54 z54 ls54 hQ54
     subst l54 y54 z54
     obtain ⟨rfl, Nq54, Kq54, Aq54⟩ := hQ54
     have N54 := Fr.app N20 Nq54
     have f55 := f41.keep Kq54 (ninS ne_ae_ex nin0)
     have z57 := Nat.le_trans z42 Kq54.1
     have st58 := fun t kt => st53 t (ls54 t kt)
     have st59 : own_K p e below T54 m 541 #[iv xa, iv xb, .val (.long xp), .second, iv xw, iv xc, iv xf, iv 0, iv (Int32.ofNat ev), iv md, iv sg, iv dg, iv v1, iv v2, iv c1, iv c2, iv c3, iv uw, rv ae, rv ex, iv (Int32.ofNat (2 * 1)), .unset, .unset] [] B0 := fun t kt => st58 t (by
      refine XS.iconst X54.here hx rfl (hb hby at_359) ?_
      show own_At p e below T54 m 360 #[iv xa, iv xb, .val (.long xp), .second, iv xw, iv xc, iv xf, iv 0, iv (Int32.ofNat ev), iv md, iv sg, iv dg, iv v1, iv v2, iv c1, iv c2, iv c3, iv uw, rv ae, rv ex, iv (Int32.ofNat (2 * 0)), .unset, .unset] [.int 2] _
      rw [show (2 : Int32) = (Int32.ofNat (2 * 1)) from (by decide)]
      refine XS.istore X54.here hx rfl (hb hby at_360) rfl (l' := #[iv xa, iv xb, .val (.long xp), .second, iv xw, iv xc, iv xf, iv 0, iv (Int32.ofNat ev), iv md, iv sg, iv dg, iv v1, iv v2, iv c1, iv c2, iv c3, iv uw, rv ae, rv ex, iv (Int32.ofNat (2 * 1)), .unset, .unset]) rfl ?_
      refine XS.goto X54.here hx rfl (pc0 := 362) (pc' := 541) rfl (hb hby at_362) (by decide) (by decide) ?_
      exact kt)
     exact ⟨1, (fun q => if q = 0 + 1 then .int c3 else if q = 0 then .int uw else (fun _ => (.int 0)) q), _, _, X54.more (by decide) (by decide), N54, z57, f55, Aq54, (own_b0w hj23 zc3 qd  rfl rfl), st59⟩
   have lx := Aex.lt
   obtain ⟨T60, h60, X60, e60, E60, A60, D60, -, ls60⟩ := newO X48 hx hZ hown (own_w hw 10 rfl) (own_w hw 11 rfl) (own_w hw 12 rfl) rfl (g := (mkF m 541 #[iv xa, iv xb, .val (.long xp), .second, iv xw, iv xc, iv xf, iv 0, iv (Int32.ofNat ev), iv md, iv sg, iv dg, iv v1, iv v2, iv c1, iv c2, iv c3, iv uw, rv ae, rv ex, iv (Int32.ofNat (2 * cn)), .unset, .unset] [])) rfl (hb hby at_541) (by decide) (by decide)
   obtain ⟨ao, g60⟩ : ∃ z, z = T48.heap.size := ⟨_, rfl⟩
   rw [← g60] at A60 D60 ls60
   have ne_ae_ao : ae ≠ ao := Nat.ne_of_lt (Nat.lt_of_lt_of_le Aae.lt (Nat.le_of_eq g60.symm))
   have g_ao : n0 ≤ ao := Nat.le_trans Z48 (Nat.le_of_eq g60.symm)
   have f61 := Aae.ext E60
   have f62 := Aex.ext E60
   have z63 := Nat.le_trans Z48 E60.1
   have f64 : Fld Z h60 ao "com/example/saturation/saturation/OpenNode" "lastKey" "I" (.int 0) := D60 (Or.inl (own_w hw 20 rfl)) (ty := .int) (by decide)
   have f65 : Fld Z h60 ao "com/example/saturation/saturation/OpenNode" "keys" "[I" .null := D60 (Or.inl (own_w hw 22 rfl)) (ty := (.array .int)) (by decide)
   have f66 : Fld Z h60 ao "com/example/saturation/saturation/OpenNode" "slots" "[I" .null := D60 (Or.inl (own_w hw 24 rfl)) (ty := (.array .int)) (by decide)
   have f67 : Fld Z h60 ao "com/example/saturation/saturation/OpenNode" "children" "[I" .null := D60 (Or.inl (own_w hw 26 rfl)) (ty := (.array .int)) (by decide)
   have f68 : Fld Z h60 ao "com/example/saturation/saturation/OpenNode" "count" "I" (.int 0) := D60 (Or.inl (own_w hw 29 rfl)) (ty := .int) (by decide)
   have f69 : Fld Z h60 ao "com/example/saturation/saturation/OpenNode" "pending" "[[J" .null := D60 (Or.inr (own_w hw 33 rfl)) (ty := (.array (.array .long))) (by decide)
   have f70 : Fld Z h60 ao "com/example/saturation/saturation/OpenNode" "pendingCount" "[I" .null := D60 (Or.inr (own_w hw 35 rfl)) (ty := (.array .int)) (by decide)
   have f71 : Fld Z h60 ao "com/example/saturation/saturation/OpenNode" "blocks" "I" (.int 0) := D60 (Or.inl (own_w hw 46 rfl)) (ty := .int) (by decide)
   have f72 : Fld Z h60 ao "com/example/saturation/saturation/OpenNode" "lastPosition" "I" (.int 0) := D60 (Or.inl (own_w hw 66 rfl)) (ty := .int) (by decide)
   have st73 := fun t kt => st48 t (ls60 t kt)
   have ltx : ex < ao := Nat.lt_of_lt_of_le lx (Nat.le_of_eq g60.symm)
   have st74 : own_K p e below T60 m 549 #[iv xa, iv xb, .val (.long xp), .second, iv xw, iv xc, iv xf, iv 0, iv (Int32.ofNat ev), iv md, iv sg, iv dg, iv v1, iv v2, iv c1, iv c2, iv c3, iv uw, rv ae, rv ex, iv (Int32.ofNat (2 * cn)), .unset, .unset] [.int (Int32.ofNat ev), .ref ae, .ref ao, .ref ao] B0 := fun t kt => st73 t (by
    refine XS.dup X60.here hx rfl (hb hby at_544) rfl rfl ?_
    refine XS.aload X60.here hx rfl (hb hby at_545) rfl rfl ?_
    refine XS.iload X60.here hx rfl (hb hby at_547) rfl ?_
    exact kt)
   obtain ⟨_, _, ⟨T75, L75, k75, n75⟩, -, X75, ⟨Lc75, hQ75, l75, y75, z75⟩, ls75⟩ := X60.specialBack hx (y := (⟨"com/example/saturation/saturation/OpenNode", "<init>", "([II)V"⟩ : MethodName)) rfl hown (mvT hZ (own_w hw 13 rfl)) (mvT hZ (own_w hw 14 rfl)) (mvT hZ (own_w hw 15 rfl)) (by decide) (backOf (W := 1) (rm_in0 l Z a0 hw [] ao ae ev ((fun _ => (.int 0))) h60 ao (Nat.le_of_lt A60.lt) f64 f65 f66 f67 f68 f69 f70 f71 f72 A60 (Nat.le_refl ao) f61 ((Ne.symm ne_ae_ao)) hev) hZ (own_w hw 15 rfl) (own_w hw 12 rfl) (by decide) (by decide)) (g := (mkF m 549 #[iv xa, iv xb, .val (.long xp), .second, iv xw, iv xc, iv xf, iv 0, iv (Int32.ofNat ev), iv md, iv sg, iv dg, iv v1, iv v2, iv c1, iv c2, iv c3, iv uw, rv ae, rv ex, iv (Int32.ofNat (2 * cn)), .unset, .unset] [.int (Int32.ofNat ev), .ref ae, .ref ao, .ref ao])) rfl (by rw [hml]; rfl) (Steps.refl _) (a := ao) (argsL := [.ref ae, .int (Int32.ofNat ev)]) (rest := [.ref ao]) (lenOf own_pd8 rfl) rfl (by show 2 * 0 + _ ≤ _; exact Nat.le_of_eq rfl) (hb hby at_549) (fun _ _ => ⟨rfl, e60, (by decide : 3 + 9 ≤ _), (by decide : 19 + 85 ≤ _)⟩)
   dsimp only [Pt.U, Pt.locs, Pt.cells, Pt.slots] at X75 l75 y75 z75 ls75 hQ75
   subst l75 y75 z75
   obtain ⟨rfl, Nq75, Zq75, Sm75, Nn75⟩ := hQ75
   have Nm75 : Fr n0 Lc75 := fun y hy => Nat.le_trans g_ao (Nq75 y hy)
   have N75 := Fr.app N48 Nm75
   have Zm75 := Nat.le_trans g_ao Zq75
   have st76 : own_K p e below T75 m 552 #[iv xa, iv xb, .val (.long xp), .second, iv xw, iv xc, iv xf, iv 0, iv (Int32.ofNat ev), iv md, iv sg, iv dg, iv v1, iv v2, iv c1, iv c2, iv c3, iv uw, rv ae, rv ex, iv (Int32.ofNat (2 * cn)), .unset, .unset] [.ref ao] B0 := fun t kt => st74 t (ls75.trans kt)
   have Eq75 := Nn75.1
   have Ax2 := f62.sm Sm75 (Nat.not_le.mpr ltx)
   exact ⟨ao, ex, ae, 0, 1, _, _, _, _, _, cn, fx, _, _, X75.more (by decide) (by decide), N75, Zm75, Nn75, Ax2, ⟨⟨_, own_St0⟩, ltx, g_ao, by decide, by decide, by decide, by decide, fun x h1 h2 => rfl, hF⟩, st76⟩
  ·subst hn
   have hc77 : ¬ ((1 : Int32) = (0 : Int32)) := by decide
   have hc78 : (1 : Int32) = (1 : Int32) := by decide
   have st79 : own_K p e below T20 m 209 #[iv xa, iv xb, .val (.long xp), .second, iv xw, iv xc, iv xf, iv 1, iv (Int32.ofNat ev), iv md, iv sg, iv dg, iv v1, iv v2, iv c1, iv c2, iv c3, iv uw, .unset, .unset, .unset, .unset, .unset] [.int 2] B0 := fun t kt => st23 t (by
    refine XS.iload X20.here hx rfl (hb hby at_189) rfl ?_
    refine XS.ifYes X20.here hx rfl (pc0 := 191) (pc' := 202) rfl (hb hby at_191) rfl ((if0 _ _).trans (feq hc77).2) (by decide) (by decide) ?_
    refine XS.iload X20.here hx rfl (hb hby at_202) rfl ?_
    refine XS.iconst X20.here hx rfl (hb hby at_204) ?_
    refine XS.icmpNo X20.here hx rfl (hb hby at_205) rfl (teq hc78).2 ?_
    refine XS.iconst X20.here hx rfl (hb hby at_208) ?_
    exact kt)
   obtain ⟨T80, h80, c80, X80, e80, E80, A80, ls80⟩ := newP X20 hx hZ (own_w hw 6 rfl) eq20 (g := (mkF m 209 #[iv xa, iv xb, .val (.long xp), .second, iv xw, iv xc, iv xf, iv 1, iv (Int32.ofNat ev), iv md, iv sg, iv dg, iv v1, iv v2, iv c1, iv c2, iv c3, iv uw, .unset, .unset, .unset, .unset, .unset] [.int 2])) rfl (hb hby at_209) rfl (by decide) (cap := 2) (by decide) (by decide) (by decide) (by decide)
   obtain ⟨ae, g80⟩ : ∃ z, z = h0.size := ⟨_, rfl⟩
   rw [← g80] at A80 ls80
   have g_ae : n0 ≤ ae := Nat.le_trans Z0 (Nat.le_of_eq g80.symm)
   have z81 := Nat.le_trans Z0 E80.1
   have f82 : own_Av Z h80 ae .int 2 (fun _ => (.int 0)) := own_Av.new A80 (by decide) (by decide)
   have st83 := fun t kt => st79 t (ls80 t kt)
   have st84 : own_K p e below T80 m 215 #[iv xa, iv xb, .val (.long xp), .second, iv xw, iv xc, iv xf, iv 1, iv (Int32.ofNat ev), iv md, iv sg, iv dg, iv v1, iv v2, iv c1, iv c2, iv c3, iv uw, .unset, .unset, .unset, .unset, .unset] [.int v1, .int 0, .ref ae, .ref ae] B0 := fun t kt => st83 t (by
    refine XS.dup X80.here hx rfl (hb hby at_211) rfl rfl ?_
    refine XS.iconst X80.here hx rfl (hb hby at_212) ?_
    refine XS.iload X80.here hx rfl (hb hby at_213) rfl ?_
    exact kt)
   obtain ⟨T85, h85, X85, e85, W85, B85, ls85⟩ := own_iastore X80 hx hZ e80 f82 (j := (0 : Int32)) (i := 0) (by decide) (by decide) (by decide) (g := (mkF m 215 #[iv xa, iv xb, .val (.long xp), .second, iv xw, iv xc, iv xf, iv 1, iv (Int32.ofNat ev), iv md, iv sg, iv dg, iv v1, iv v2, iv c1, iv c2, iv c3, iv uw, .unset, .unset, .unset, .unset, .unset] [.int v1, .int 0, .ref ae, .ref ae])) rfl rfl (hb hby at_215)
   have N85 := Fr.snoc X85 N20 g_ae
   have z86 := Nat.le_trans z81 (Keep.of_wr W85).1
   have f87 := B85.congr (g := (fun q => if q = 0 then .int v1 else .int 0)) (fun q hq => rfl)
   have st88 := fun t kt => st84 t (ls85 t kt)
   have st89 : own_K p e below T85 m 220 #[iv xa, iv xb, .val (.long xp), .second, iv xw, iv xc, iv xf, iv 1, iv (Int32.ofNat ev), iv md, iv sg, iv dg, iv v1, iv v2, iv c1, iv c2, iv c3, iv uw, .unset, .unset, .unset, .unset, .unset] [.int c1, .int 1, .ref ae, .ref ae] B0 := fun t kt => st88 t (by
    refine XS.dup X85.here hx rfl (hb hby at_216) rfl rfl ?_
    refine XS.iconst X85.here hx rfl (hb hby at_217) ?_
    refine XS.iload X85.here hx rfl (hb hby at_218) rfl ?_
    exact kt)
   obtain ⟨T90, h90, X90, e90, W90, B90, ls90⟩ := own_iastore X85 hx hZ e85 f87 (j := (1 : Int32)) (i := 1) (by decide) (by decide) (by decide) (g := (mkF m 220 #[iv xa, iv xb, .val (.long xp), .second, iv xw, iv xc, iv xf, iv 1, iv (Int32.ofNat ev), iv md, iv sg, iv dg, iv v1, iv v2, iv c1, iv c2, iv c3, iv uw, .unset, .unset, .unset, .unset, .unset] [.int c1, .int 1, .ref ae, .ref ae])) rfl rfl (hb hby at_220)
   have N90 := Fr.snoc X90 N85 g_ae
   have z91 := Nat.le_trans z86 (Keep.of_wr W90).1
   have f92 := B90.congr (g := (fun q => if q = 1 then .int c1 else if q = 0 then .int v1 else .int 0)) (fun q hq => rfl)
   have st93 := fun t kt => st89 t (ls90 t kt)
   have st94 : own_K p e below T90 m 253 #[iv xa, iv xb, .val (.long xp), .second, iv xw, iv xc, iv xf, iv 1, iv (Int32.ofNat ev), iv md, iv sg, iv dg, iv v1, iv v2, iv c1, iv c2, iv c3, iv uw, rv ae, .unset, .unset, .unset, .unset] [.int 6] B0 := fun t kt => st93 t (by
    refine XS.astore X90.here hx rfl (hb hby at_221) rfl rfl (l' := #[iv xa, iv xb, .val (.long xp), .second, iv xw, iv xc, iv xf, iv 1, iv (Int32.ofNat ev), iv md, iv sg, iv dg, iv v1, iv v2, iv c1, iv c2, iv c3, iv uw, rv ae, .unset, .unset, .unset, .unset]) rfl ?_
    refine XS.goto X90.here hx rfl (pc0 := 223) (pc' := 251) rfl (hb hby at_223) (by decide) (by decide) ?_
    refine XS.bipush X90.here hx rfl (hb hby at_251) ?_
    exact kt)
   obtain ⟨T95, h95, c95, X95, e95, E95, A95, ls95⟩ := newP X90 hx hZ (own_w hw 6 rfl) e90 (g := (mkF m 253 #[iv xa, iv xb, .val (.long xp), .second, iv xw, iv xc, iv xf, iv 1, iv (Int32.ofNat ev), iv md, iv sg, iv dg, iv v1, iv v2, iv c1, iv c2, iv c3, iv uw, rv ae, .unset, .unset, .unset, .unset] [.int 6])) rfl (hb hby at_253) rfl (by decide) (cap := 6) (by decide) (by decide) (by decide) (by decide)
   obtain ⟨ex, g95⟩ : ∃ z, z = h90.size := ⟨_, rfl⟩
   rw [← g95] at A95 ls95
   have ne_ae_ex : ae ≠ ex := Nat.ne_of_lt (Nat.lt_of_lt_of_le f92.lt (Nat.le_of_eq g95.symm))
   have g_ex : n0 ≤ ex := Nat.le_trans z91 (Nat.le_of_eq g95.symm)
   have f96 := f92.ext E95
   have z97 := Nat.le_trans z91 E95.1
   have f98 : own_Av Z h95 ex .int 6 (fun _ => (.int 0)) := own_Av.new A95 (by decide) (by decide)
   have st99 := fun t kt => st94 t (ls95 t kt)
   have hc100 : ¬ ((1 : Int32) < (1 : Int32)) := by decide
   have st101 : own_K p e below T95 m 276 #[iv xa, iv xb, .val (.long xp), .second, iv xw, iv xc, iv xf, iv 1, iv (Int32.ofNat ev), iv md, iv sg, iv dg, iv v1, iv v2, iv c1, iv c2, iv c3, iv uw, rv ae, rv ex, iv (Int32.ofNat (2 * 1)), .unset, .unset] [.int c1, .int v1, .int 0, .ref ex] B0 := fun t kt => st99 t (by
    refine XS.astore X95.here hx rfl (hb hby at_255) rfl rfl (l' := #[iv xa, iv xb, .val (.long xp), .second, iv xw, iv xc, iv xf, iv 1, iv (Int32.ofNat ev), iv md, iv sg, iv dg, iv v1, iv v2, iv c1, iv c2, iv c3, iv uw, rv ae, rv ex, .unset, .unset, .unset]) rfl ?_
    refine XS.iconst X95.here hx rfl (hb hby at_257) ?_
    refine XS.iload X95.here hx rfl (hb hby at_258) rfl ?_
    refine XS.imul X95.here hx rfl (hb hby at_260) rfl ?_
    show own_At p e below T95 m 261 #[iv xa, iv xb, .val (.long xp), .second, iv xw, iv xc, iv xf, iv 1, iv (Int32.ofNat ev), iv md, iv sg, iv dg, iv v1, iv v2, iv c1, iv c2, iv c3, iv uw, rv ae, rv ex, .unset, .unset, .unset] [(.int ((2 : Int32) * (1 : Int32)))] _
    rw [show ((2 : Int32) * (1 : Int32)) = (Int32.ofNat (2 * 1)) from (by decide)]
    refine XS.istore X95.here hx rfl (hb hby at_261) rfl (l' := #[iv xa, iv xb, .val (.long xp), .second, iv xw, iv xc, iv xf, iv 1, iv (Int32.ofNat ev), iv md, iv sg, iv dg, iv v1, iv v2, iv c1, iv c2, iv c3, iv uw, rv ae, rv ex, iv (Int32.ofNat (2 * 1)), .unset, .unset]) rfl ?_
    refine XS.iload X95.here hx rfl (hb hby at_263) rfl ?_
    refine XS.iconst X95.here hx rfl (hb hby at_265) ?_
    refine XS.icmpNo X95.here hx rfl (hb hby at_266) rfl (flt hc100).1 ?_
    refine XS.aload X95.here hx rfl (hb hby at_269) rfl rfl ?_
    refine XS.iconst X95.here hx rfl (hb hby at_271) ?_
    refine XS.iload X95.here hx rfl (hb hby at_272) rfl ?_
    refine XS.iload X95.here hx rfl (hb hby at_274) rfl ?_
    exact kt)
   obtain ⟨_, _, ⟨T102, L102, k102, n102⟩, -, X102, ⟨Lc102, hQ102, l102, y102, z102⟩, ls102⟩ := Jvm.LawKit.callS X95 hx (y := (⟨"com/example/saturation/saturation/OpenNodeEdgesPinLaw", "put", "([IIII)V"⟩ : MethodName)) hown (mvT hZ (own_w hw 7 rfl)) (mvT hZ (own_w hw 8 rfl)) (mvT hZ (own_w hw 3 rfl)) (mvT hZ (own_w hw 9 rfl)) (by decide) (backOf (W := 0) (rm_put l Z a0 hw [] ex v1 c1 0 ((fun _ => (.int 0))) h95 n0 z97 g_ex f98 (by decide)) hZ (own_w hw 9 rfl) (own_w hw 3 rfl) (by decide) (by decide)) (g := (mkF m 276 #[iv xa, iv xb, .val (.long xp), .second, iv xw, iv xc, iv xf, iv 1, iv (Int32.ofNat ev), iv md, iv sg, iv dg, iv v1, iv v2, iv c1, iv c2, iv c3, iv uw, rv ae, rv ex, iv (Int32.ofNat (2 * 1)), .unset, .unset] [.int c1, .int v1, .int 0, .ref ex])) rfl (by rw [hml]; rfl) (argsL := [.ref ex, .int 0, .int v1, .int c1]) (rest := []) (lenOf own_pd7 rfl) rfl (by show 2 * 0 + _ ≤ _; exact Nat.le_of_eq rfl) (hb hby at_276) (fun _ _ => ⟨rfl, e95, (by decide : 2 + 0 ≤ _), (by decide : 8 + 0 ≤ _)⟩)
   dsimp only [Pt.U, Pt.locs, Pt.cells, Pt.slots] at X102 l102 y102 z102 ls102 hQ102
   subst l102 y102 z102
   obtain ⟨rfl, Nq102, Kq102, Aq102⟩ := hQ102
   have N102 := Fr.app N90 Nq102
   have f103 := f96.keep Kq102 (ninS ne_ae_ex nin0)
   have z105 := Nat.le_trans z97 Kq102.1
   have st106 := fun t kt => st101 t (ls102 t kt)
   have hc107 : ¬ ((1 : Int32) = (2 : Int32)) := by decide
   have st108 : own_K p e below T102 m 297 #[iv xa, iv xb, .val (.long xp), .second, iv xw, iv xc, iv xf, iv 1, iv (Int32.ofNat ev), iv md, iv sg, iv dg, iv v1, iv v2, iv c1, iv c2, iv c3, iv uw, rv ae, rv ex, iv (Int32.ofNat (2 * 1)), .unset, .unset] [.int dg] B0 := fun t kt => st106 t (by
    refine XS.iload X102.here hx rfl (hb hby at_279) rfl ?_
    refine XS.iconst X102.here hx rfl (hb hby at_281) ?_
    refine XS.icmpYes X102.here hx rfl (pc0 := 282) (pc' := 295) rfl (hb hby at_282) rfl (feq hc107).2 (by decide) (by decide) ?_
    refine XS.iload X102.here hx rfl (hb hby at_295) rfl ?_
    exact kt)
   obtain ⟨cn, fx, T109, L109, X109, N109, Z109, Aae, Aex, hF, st109⟩ : ∃ (cn : Nat) (fx : Nat → Value) (T109 : State) (L' : List Loc), Stand p l e room_1 s m #[.int xa, .int xb, .long xp, .int xw, .int xc, .int xf] below meth c T109 L' 2 10 ∧ Fr n0 L' ∧ n0 ≤ T109.heap.size ∧ (own_Av Z T109.heap ae .int 2 (fun q => if q = 1 then .int c1 else if q = 0 then .int v1 else .int 0)) ∧ (own_Av Z T109.heap ex .int 6 fx) ∧ (own_Fin 1 (own_U own_F0 v1 c1) uw c3 dg cn fx) ∧ own_K p e below T109 m 541 #[iv xa, iv xb, .val (.long xp), .second, iv xw, iv xc, iv xf, iv 1, iv (Int32.ofNat ev), iv md, iv sg, iv dg, iv v1, iv v2, iv c1, iv c2, iv c3, iv uw, rv ae, rv ex, iv (Int32.ofNat (2 * cn)), .unset, .unset] [] B0 := by
    by_cases qd : dg = (0 : Int32)
    ·have st110 : own_K p e below T102 m 541 #[iv xa, iv xb, .val (.long xp), .second, iv xw, iv xc, iv xf, iv 1, iv (Int32.ofNat ev), iv md, iv sg, iv dg, iv v1, iv v2, iv c1, iv c2, iv c3, iv uw, rv ae, rv ex, iv (Int32.ofNat (2 * 1)), .unset, .unset] [] B0 := fun t kt => st108 t (by
      refine XS.ifYes X102.here hx rfl (pc0 := 297) (pc' := 541) rfl (hb hby at_297) rfl ((if0 _ _).trans (teq qd).1) (by decide) (by decide) ?_
      exact kt)
     exact ⟨1, (fun q => if q = 0 + 1 then .int c1 else if q = 0 then .int v1 else (fun _ => (.int 0)) q), _, _, X102.more (by decide) (by decide), N102, z105, f103, Aq102, (own_b10 p1 zc1 qd  rfl rfl), st110⟩
    ·have hc111 : ¬ ((1 : Int32) < (1 : Int32)) := by decide
     have st112 : own_K p e below T102 m 310 #[iv xa, iv xb, .val (.long xp), .second, iv xw, iv xc, iv xf, iv 1, iv (Int32.ofNat ev), iv md, iv sg, iv dg, iv v1, iv v2, iv c1, iv c2, iv c3, iv uw, rv ae, rv ex, iv (Int32.ofNat (2 * 1)), .unset, .unset] [.int v1, .int uw] B0 := fun t kt => st108 t (by
      refine XS.ifNo X102.here hx rfl (hb hby at_297) rfl ((if0 _ _).trans (feq qd).1) ?_
      refine XS.iload X102.here hx rfl (hb hby at_300) rfl ?_
      refine XS.iconst X102.here hx rfl (hb hby at_302) ?_
      refine XS.icmpNo X102.here hx rfl (hb hby at_303) rfl (flt hc111).1 ?_
      refine XS.iload X102.here hx rfl (hb hby at_306) rfl ?_
      refine XS.iload X102.here hx rfl (hb hby at_308) rfl ?_
      exact kt)
     by_cases q1 : uw = v1
     ·have st113 : own_K p e below T102 m 318 #[iv xa, iv xb, .val (.long xp), .second, iv xw, iv xc, iv xf, iv 1, iv (Int32.ofNat ev), iv md, iv sg, iv dg, iv v1, iv v2, iv c1, iv c2, iv c3, iv uw, rv ae, rv ex, iv (Int32.ofNat (2 * 1)), .unset, .unset] [.int c3, .int 1, .ref ex] B0 := fun t kt => st112 t (by
       refine XS.icmpNo X102.here hx rfl (hb hby at_310) rfl (teq q1).2 ?_
       refine XS.aload X102.here hx rfl (hb hby at_313) rfl rfl ?_
       refine XS.iconst X102.here hx rfl (hb hby at_315) ?_
       refine XS.iload X102.here hx rfl (hb hby at_316) rfl ?_
       exact kt)
      obtain ⟨T114, h114, X114, e114, W114, B114, ls114⟩ := own_iastore X102 hx hZ rfl Aq102 (j := (1 : Int32)) (i := 1) (by decide) (by decide) (by decide) (g := (mkF m 318 #[iv xa, iv xb, .val (.long xp), .second, iv xw, iv xc, iv xf, iv 1, iv (Int32.ofNat ev), iv md, iv sg, iv dg, iv v1, iv v2, iv c1, iv c2, iv c3, iv uw, rv ae, rv ex, iv (Int32.ofNat (2 * 1)), .unset, .unset] [.int c3, .int 1, .ref ex])) rfl rfl (hb hby at_318)
      have N114 := Fr.snoc X114 N102 g_ex
      have f115 := f103.other W114 ne_ae_ex
      have z116 := Nat.le_trans z105 (Keep.of_wr W114).1
      have f117 := B114
      have st118 := fun t kt => st113 t (ls114 t kt)
      have st119 : own_K p e below T114 m 541 #[iv xa, iv xb, .val (.long xp), .second, iv xw, iv xc, iv xf, iv 1, iv (Int32.ofNat ev), iv md, iv sg, iv dg, iv v1, iv v2, iv c1, iv c2, iv c3, iv uw, rv ae, rv ex, iv (Int32.ofNat (2 * 1)), .unset, .unset] [] B0 := fun t kt => st118 t (by
       refine XS.goto X114.here hx rfl (pc0 := 319) (pc' := 541) rfl (hb hby at_319) (by decide) (by decide) ?_
       exact kt)
      exact ⟨1, (fun q => if q = 1 then (.int c3) else (fun q => if q = 0 + 1 then .int c1 else if q = 0 then .int v1 else (fun _ => (.int 0)) q) q), _, _, X114.more (by decide) (by decide), N114, (by rw [e114]; exact z116), (by rw [e114]; exact f115), (by rw [e114]; exact f117), (own_b1e p1 zc1 hj23 zc3 qd q1 rfl rfl), st119⟩
     ·have hc120 : ¬ ((1 : Int32) = (2 : Int32)) := by decide
      have hc121 : ¬ ((1 : Int32) = (0 : Int32)) := by decide
      have hc122 : (1 : Int32) = (1 : Int32) := by decide
      have st123 : own_K p e below T102 m 375 #[iv xa, iv xb, .val (.long xp), .second, iv xw, iv xc, iv xf, iv 1, iv (Int32.ofNat ev), iv md, iv sg, iv dg, iv v1, iv v2, iv c1, iv c2, iv c3, iv uw, rv ae, rv ex, iv (Int32.ofNat (2 * 1)), .unset, .unset] [.int v1, .int uw] B0 := fun t kt => st112 t (by
       refine XS.icmpYes X102.here hx rfl (pc0 := 310) (pc' := 322) rfl (hb hby at_310) rfl (feq q1).2 (by decide) (by decide) ?_
       refine XS.iload X102.here hx rfl (hb hby at_322) rfl ?_
       refine XS.iconst X102.here hx rfl (hb hby at_324) ?_
       refine XS.icmpYes X102.here hx rfl (pc0 := 325) (pc' := 344) rfl (hb hby at_325) rfl (feq hc120).2 (by decide) (by decide) ?_
       refine XS.iload X102.here hx rfl (hb hby at_344) rfl ?_
       refine XS.ifYes X102.here hx rfl (pc0 := 346) (pc' := 365) rfl (hb hby at_346) rfl ((if0 _ _).trans (feq hc121).2) (by decide) (by decide) ?_
       refine XS.iload X102.here hx rfl (hb hby at_365) rfl ?_
       refine XS.iconst X102.here hx rfl (hb hby at_367) ?_
       refine XS.icmpNo X102.here hx rfl (hb hby at_368) rfl (teq hc122).2 ?_
       refine XS.iload X102.here hx rfl (hb hby at_371) rfl ?_
       refine XS.iload X102.here hx rfl (hb hby at_373) rfl ?_
       exact kt)
      by_cases q2 : uw < v1
      ·have st124 : own_K p e below T102 m 385 #[iv xa, iv xb, .val (.long xp), .second, iv xw, iv xc, iv xf, iv 1, iv (Int32.ofNat ev), iv md, iv sg, iv dg, iv v1, iv v2, iv c1, iv c2, iv c3, iv uw, rv ae, rv ex, iv (Int32.ofNat (2 * 1)), .unset, .unset] [.int c3, .int uw, .int 0, .ref ex] B0 := fun t kt => st123 t (by
        refine XS.icmpNo X102.here hx rfl (hb hby at_375) rfl (tlt q2).2.1 ?_
        refine XS.aload X102.here hx rfl (hb hby at_378) rfl rfl ?_
        refine XS.iconst X102.here hx rfl (hb hby at_380) ?_
        refine XS.iload X102.here hx rfl (hb hby at_381) rfl ?_
        refine XS.iload X102.here hx rfl (hb hby at_383) rfl ?_
        exact kt)
       obtain ⟨_, _, ⟨T125, L125, k125, n125⟩, -, X125, ⟨Lc125, hQ125, l125, y125, z125⟩, ls125⟩ := Jvm.LawKit.callS X102 hx (y := (⟨"com/example/saturation/saturation/OpenNodeEdgesPinLaw", "put", "([IIII)V"⟩ : MethodName)) hown (mvT hZ (own_w hw 7 rfl)) (mvT hZ (own_w hw 8 rfl)) (mvT hZ (own_w hw 3 rfl)) (mvT hZ (own_w hw 9 rfl)) (by decide) (backOf (W := 0) (rm_put l Z a0 hw [] ex uw c3 0 ((fun q => if q = 0 + 1 then .int c1 else if q = 0 then .int v1 else (fun _ => (.int 0)) q)) T102.heap n0 z105 g_ex Aq102 (by decide)) hZ (own_w hw 9 rfl) (own_w hw 3 rfl) (by decide) (by decide)) (g := (mkF m 385 #[iv xa, iv xb, .val (.long xp), .second, iv xw, iv xc, iv xf, iv 1, iv (Int32.ofNat ev), iv md, iv sg, iv dg, iv v1, iv v2, iv c1, iv c2, iv c3, iv uw, rv ae, rv ex, iv (Int32.ofNat (2 * 1)), .unset, .unset] [.int c3, .int uw, .int 0, .ref ex])) rfl (by rw [hml]; rfl) (argsL := [.ref ex, .int 0, .int uw, .int c3]) (rest := []) (lenOf own_pd7 rfl) rfl (by show 2 * 0 + _ ≤ _; exact Nat.le_of_eq rfl) (hb hby at_385) (fun _ _ => ⟨rfl, rfl, (by decide : 2 + 0 ≤ _), (by decide : 8 + 0 ≤ _)⟩)
       dsimp only [Pt.U, Pt.locs, Pt.cells, Pt.slots] at X125 l125 y125 z125 ls125 hQ125
       subst l125 y125 z125
       obtain ⟨rfl, Nq125, Kq125, Aq125⟩ := hQ125
       have N125 := Fr.app N102 Nq125
       have f126 := f103.keep Kq125 (ninS ne_ae_ex nin0)
       have z128 := Nat.le_trans z105 Kq125.1
       have st129 := fun t kt => st124 t (ls125 t kt)
       have st130 : own_K p e below T125 m 395 #[iv xa, iv xb, .val (.long xp), .second, iv xw, iv xc, iv xf, iv 1, iv (Int32.ofNat ev), iv md, iv sg, iv dg, iv v1, iv v2, iv c1, iv c2, iv c3, iv uw, rv ae, rv ex, iv (Int32.ofNat (2 * 1)), .unset, .unset] [.int c1, .int v1, .int 2, .ref ex] B0 := fun t kt => st129 t (by
        refine XS.aload X125.here hx rfl (hb hby at_388) rfl rfl ?_
        refine XS.iconst X125.here hx rfl (hb hby at_390) ?_
        refine XS.iload X125.here hx rfl (hb hby at_391) rfl ?_
        refine XS.iload X125.here hx rfl (hb hby at_393) rfl ?_
        exact kt)
       obtain ⟨_, _, ⟨T131, L131, k131, n131⟩, -, X131, ⟨Lc131, hQ131, l131, y131, z131⟩, ls131⟩ := Jvm.LawKit.callS X125 hx (y := (⟨"com/example/saturation/saturation/OpenNodeEdgesPinLaw", "put", "([IIII)V"⟩ : MethodName)) hown (mvT hZ (own_w hw 7 rfl)) (mvT hZ (own_w hw 8 rfl)) (mvT hZ (own_w hw 3 rfl)) (mvT hZ (own_w hw 9 rfl)) (by decide) (backOf (W := 0) (rm_put l Z a0 hw [] ex v1 c1 2 ((fun q => if q = 0 + 1 then .int c3 else if q = 0 then .int uw else (fun q => if q = 0 + 1 then .int c1 else if q = 0 then .int v1 else (fun _ => (.int 0)) q) q)) T125.heap n0 z128 g_ex Aq125 (by decide)) hZ (own_w hw 9 rfl) (own_w hw 3 rfl) (by decide) (by decide)) (g := (mkF m 395 #[iv xa, iv xb, .val (.long xp), .second, iv xw, iv xc, iv xf, iv 1, iv (Int32.ofNat ev), iv md, iv sg, iv dg, iv v1, iv v2, iv c1, iv c2, iv c3, iv uw, rv ae, rv ex, iv (Int32.ofNat (2 * 1)), .unset, .unset] [.int c1, .int v1, .int 2, .ref ex])) rfl (by rw [hml]; rfl) (argsL := [.ref ex, .int 2, .int v1, .int c1]) (rest := []) (lenOf own_pd7 rfl) rfl (by show 2 * 0 + _ ≤ _; exact Nat.le_of_eq rfl) (hb hby at_395) (fun _ _ => ⟨rfl, rfl, (by decide : 2 + 0 ≤ _), (by decide : 8 + 0 ≤ _)⟩)
       dsimp only [Pt.U, Pt.locs, Pt.cells, Pt.slots] at X131 l131 y131 z131 ls131 hQ131
       subst l131 y131 z131
       obtain ⟨rfl, Nq131, Kq131, Aq131⟩ := hQ131
       have N131 := Fr.app N125 Nq131
       have f132 := f126.keep Kq131 (ninS ne_ae_ex nin0)
       have z134 := Nat.le_trans z128 Kq131.1
       have st135 := fun t kt => st130 t (ls131 t kt)
       have st136 : own_K p e below T131 m 541 #[iv xa, iv xb, .val (.long xp), .second, iv xw, iv xc, iv xf, iv 1, iv (Int32.ofNat ev), iv md, iv sg, iv dg, iv v1, iv v2, iv c1, iv c2, iv c3, iv uw, rv ae, rv ex, iv (Int32.ofNat (2 * 2)), .unset, .unset] [] B0 := fun t kt => st135 t (by
        refine XS.goto X131.here hx rfl (pc0 := 398) (pc' := 421) rfl (hb hby at_398) (by decide) (by decide) ?_
        refine XS.iconst X131.here hx rfl (hb hby at_421) ?_
        show own_At p e below T131 m 422 #[iv xa, iv xb, .val (.long xp), .second, iv xw, iv xc, iv xf, iv 1, iv (Int32.ofNat ev), iv md, iv sg, iv dg, iv v1, iv v2, iv c1, iv c2, iv c3, iv uw, rv ae, rv ex, iv (Int32.ofNat (2 * 1)), .unset, .unset] [.int 4] _
        rw [show (4 : Int32) = (Int32.ofNat (2 * 2)) from (by decide)]
        refine XS.istore X131.here hx rfl (hb hby at_422) rfl (l' := #[iv xa, iv xb, .val (.long xp), .second, iv xw, iv xc, iv xf, iv 1, iv (Int32.ofNat ev), iv md, iv sg, iv dg, iv v1, iv v2, iv c1, iv c2, iv c3, iv uw, rv ae, rv ex, iv (Int32.ofNat (2 * 2)), .unset, .unset]) rfl ?_
        refine XS.goto X131.here hx rfl (pc0 := 424) (pc' := 541) rfl (hb hby at_424) (by decide) (by decide) ?_
        exact kt)
       exact ⟨2, (fun q => if q = 2 + 1 then .int c1 else if q = 2 then .int v1 else (fun q => if q = 0 + 1 then .int c3 else if q = 0 then .int uw else (fun q => if q = 0 + 1 then .int c1 else if q = 0 then .int v1 else (fun _ => (.int 0)) q) q) q), _, _, X131.more (by decide) (by decide), N131, z134, f132, Aq131, (own_b1l p1 zc1 hj23 zc3 qd q1 q2 rfl rfl rfl rfl), st136⟩
      ·have st137 : own_K p e below T102 m 408 #[iv xa, iv xb, .val (.long xp), .second, iv xw, iv xc, iv xf, iv 1, iv (Int32.ofNat ev), iv md, iv sg, iv dg, iv v1, iv v2, iv c1, iv c2, iv c3, iv uw, rv ae, rv ex, iv (Int32.ofNat (2 * 1)), .unset, .unset] [.int c1, .int v1, .int 0, .ref ex] B0 := fun t kt => st123 t (by
        refine XS.icmpYes X102.here hx rfl (pc0 := 375) (pc' := 401) rfl (hb hby at_375) rfl (flt q2).2.1 (by decide) (by decide) ?_
        refine XS.aload X102.here hx rfl (hb hby at_401) rfl rfl ?_
        refine XS.iconst X102.here hx rfl (hb hby at_403) ?_
        refine XS.iload X102.here hx rfl (hb hby at_404) rfl ?_
        refine XS.iload X102.here hx rfl (hb hby at_406) rfl ?_
        exact kt)
       obtain ⟨_, _, ⟨T138, L138, k138, n138⟩, -, X138, ⟨Lc138, hQ138, l138, y138, z138⟩, ls138⟩ := Jvm.LawKit.callS X102 hx (y := (⟨"com/example/saturation/saturation/OpenNodeEdgesPinLaw", "put", "([IIII)V"⟩ : MethodName)) hown (mvT hZ (own_w hw 7 rfl)) (mvT hZ (own_w hw 8 rfl)) (mvT hZ (own_w hw 3 rfl)) (mvT hZ (own_w hw 9 rfl)) (by decide) (backOf (W := 0) (rm_put l Z a0 hw [] ex v1 c1 0 ((fun q => if q = 0 + 1 then .int c1 else if q = 0 then .int v1 else (fun _ => (.int 0)) q)) T102.heap n0 z105 g_ex Aq102 (by decide)) hZ (own_w hw 9 rfl) (own_w hw 3 rfl) (by decide) (by decide)) (g := (mkF m 408 #[iv xa, iv xb, .val (.long xp), .second, iv xw, iv xc, iv xf, iv 1, iv (Int32.ofNat ev), iv md, iv sg, iv dg, iv v1, iv v2, iv c1, iv c2, iv c3, iv uw, rv ae, rv ex, iv (Int32.ofNat (2 * 1)), .unset, .unset] [.int c1, .int v1, .int 0, .ref ex])) rfl (by rw [hml]; rfl) (argsL := [.ref ex, .int 0, .int v1, .int c1]) (rest := []) (lenOf own_pd7 rfl) rfl (by show 2 * 0 + _ ≤ _; exact Nat.le_of_eq rfl) (hb hby at_408) (fun _ _ => ⟨rfl, rfl, (by decide : 2 + 0 ≤ _), (by decide : 8 + 0 ≤ _)⟩)
       dsimp only [Pt.U, Pt.locs, Pt.cells, Pt.slots] at X138 l138 y138 z138 ls138 hQ138
       subst l138 y138 z138
       obtain ⟨rfl, Nq138, Kq138, Aq138⟩ := hQ138
       have N138 := Fr.app N102 Nq138
       have f139 := f103.keep Kq138 (ninS ne_ae_ex nin0)
       have z141 := Nat.le_trans z105 Kq138.1
       have st142 := fun t kt => st137 t (ls138 t kt)
       have st143 : own_K p e below T138 m 418 #[iv xa, iv xb, .val (.long xp), .second, iv xw, iv xc, iv xf, iv 1, iv (Int32.ofNat ev), iv md, iv sg, iv dg, iv v1, iv v2, iv c1, iv c2, iv c3, iv uw, rv ae, rv ex, iv (Int32.ofNat (2 * 1)), .unset, .unset] [.int c3, .int uw, .int 2, .ref ex] B0 := fun t kt => st142 t (by
        refine XS.aload X138.here hx rfl (hb hby at_411) rfl rfl ?_
        refine XS.iconst X138.here hx rfl (hb hby at_413) ?_
        refine XS.iload X138.here hx rfl (hb hby at_414) rfl ?_
        refine XS.iload X138.here hx rfl (hb hby at_416) rfl ?_
        exact kt)
       obtain ⟨_, _, ⟨T144, L144, k144, n144⟩, -, X144, ⟨Lc144, hQ144, l144, y144, z144⟩, ls144⟩ := Jvm.LawKit.callS X138 hx (y := (⟨"com/example/saturation/saturation/OpenNodeEdgesPinLaw", "put", "([IIII)V"⟩ : MethodName)) hown (mvT hZ (own_w hw 7 rfl)) (mvT hZ (own_w hw 8 rfl)) (mvT hZ (own_w hw 3 rfl)) (mvT hZ (own_w hw 9 rfl)) (by decide) (backOf (W := 0) (rm_put l Z a0 hw [] ex uw c3 2 ((fun q => if q = 0 + 1 then .int c1 else if q = 0 then .int v1 else (fun q => if q = 0 + 1 then .int c1 else if q = 0 then .int v1 else (fun _ => (.int 0)) q) q)) T138.heap n0 z141 g_ex Aq138 (by decide)) hZ (own_w hw 9 rfl) (own_w hw 3 rfl) (by decide) (by decide)) (g := (mkF m 418 #[iv xa, iv xb, .val (.long xp), .second, iv xw, iv xc, iv xf, iv 1, iv (Int32.ofNat ev), iv md, iv sg, iv dg, iv v1, iv v2, iv c1, iv c2, iv c3, iv uw, rv ae, rv ex, iv (Int32.ofNat (2 * 1)), .unset, .unset] [.int c3, .int uw, .int 2, .ref ex])) rfl (by rw [hml]; rfl) (argsL := [.ref ex, .int 2, .int uw, .int c3]) (rest := []) (lenOf own_pd7 rfl) rfl (by show 2 * 0 + _ ≤ _; exact Nat.le_of_eq rfl) (hb hby at_418) (fun _ _ => ⟨rfl, rfl, (by decide : 2 + 0 ≤ _), (by decide : 8 + 0 ≤ _)⟩)
       dsimp only [Pt.U, Pt.locs, Pt.cells, Pt.slots] at X144 l144 y144 z144 ls144 hQ144
       subst l144 y144 z144
       obtain ⟨rfl, Nq144, Kq144, Aq144⟩ := hQ144
       have N144 := Fr.app N138 Nq144
       have f145 := f139.keep Kq144 (ninS ne_ae_ex nin0)
       have z147 := Nat.le_trans z141 Kq144.1
       have st148 := fun t kt => st143 t (ls144 t kt)
       have st149 : own_K p e below T144 m 541 #[iv xa, iv xb, .val (.long xp), .second, iv xw, iv xc, iv xf, iv 1, iv (Int32.ofNat ev), iv md, iv sg, iv dg, iv v1, iv v2, iv c1, iv c2, iv c3, iv uw, rv ae, rv ex, iv (Int32.ofNat (2 * 2)), .unset, .unset] [] B0 := fun t kt => st148 t (by
        refine XS.iconst X144.here hx rfl (hb hby at_421) ?_
        show own_At p e below T144 m 422 #[iv xa, iv xb, .val (.long xp), .second, iv xw, iv xc, iv xf, iv 1, iv (Int32.ofNat ev), iv md, iv sg, iv dg, iv v1, iv v2, iv c1, iv c2, iv c3, iv uw, rv ae, rv ex, iv (Int32.ofNat (2 * 1)), .unset, .unset] [.int 4] _
        rw [show (4 : Int32) = (Int32.ofNat (2 * 2)) from (by decide)]
        refine XS.istore X144.here hx rfl (hb hby at_422) rfl (l' := #[iv xa, iv xb, .val (.long xp), .second, iv xw, iv xc, iv xf, iv 1, iv (Int32.ofNat ev), iv md, iv sg, iv dg, iv v1, iv v2, iv c1, iv c2, iv c3, iv uw, rv ae, rv ex, iv (Int32.ofNat (2 * 2)), .unset, .unset]) rfl ?_
        refine XS.goto X144.here hx rfl (pc0 := 424) (pc' := 541) rfl (hb hby at_424) (by decide) (by decide) ?_
        exact kt)
       exact ⟨2, (fun q => if q = 2 + 1 then .int c3 else if q = 2 then .int uw else (fun q => if q = 0 + 1 then .int c1 else if q = 0 then .int v1 else (fun q => if q = 0 + 1 then .int c1 else if q = 0 then .int v1 else (fun _ => (.int 0)) q) q) q), _, _, X144.more (by decide) (by decide), N144, z147, f145, Aq144, (own_b1g p1 zc1 hj23 zc3 qd q1 q2 rfl rfl rfl rfl), st149⟩
   have lx := Aex.lt
   obtain ⟨T150, h150, X150, e150, E150, A150, D150, -, ls150⟩ := newO X109 hx hZ hown (own_w hw 10 rfl) (own_w hw 11 rfl) (own_w hw 12 rfl) rfl (g := (mkF m 541 #[iv xa, iv xb, .val (.long xp), .second, iv xw, iv xc, iv xf, iv 1, iv (Int32.ofNat ev), iv md, iv sg, iv dg, iv v1, iv v2, iv c1, iv c2, iv c3, iv uw, rv ae, rv ex, iv (Int32.ofNat (2 * cn)), .unset, .unset] [])) rfl (hb hby at_541) (by decide) (by decide)
   obtain ⟨ao, g150⟩ : ∃ z, z = T109.heap.size := ⟨_, rfl⟩
   rw [← g150] at A150 D150 ls150
   have ne_ae_ao : ae ≠ ao := Nat.ne_of_lt (Nat.lt_of_lt_of_le Aae.lt (Nat.le_of_eq g150.symm))
   have g_ao : n0 ≤ ao := Nat.le_trans Z109 (Nat.le_of_eq g150.symm)
   have f151 := Aae.ext E150
   have f152 := Aex.ext E150
   have z153 := Nat.le_trans Z109 E150.1
   have f154 : Fld Z h150 ao "com/example/saturation/saturation/OpenNode" "lastKey" "I" (.int 0) := D150 (Or.inl (own_w hw 20 rfl)) (ty := .int) (by decide)
   have f155 : Fld Z h150 ao "com/example/saturation/saturation/OpenNode" "keys" "[I" .null := D150 (Or.inl (own_w hw 22 rfl)) (ty := (.array .int)) (by decide)
   have f156 : Fld Z h150 ao "com/example/saturation/saturation/OpenNode" "slots" "[I" .null := D150 (Or.inl (own_w hw 24 rfl)) (ty := (.array .int)) (by decide)
   have f157 : Fld Z h150 ao "com/example/saturation/saturation/OpenNode" "children" "[I" .null := D150 (Or.inl (own_w hw 26 rfl)) (ty := (.array .int)) (by decide)
   have f158 : Fld Z h150 ao "com/example/saturation/saturation/OpenNode" "count" "I" (.int 0) := D150 (Or.inl (own_w hw 29 rfl)) (ty := .int) (by decide)
   have f159 : Fld Z h150 ao "com/example/saturation/saturation/OpenNode" "pending" "[[J" .null := D150 (Or.inr (own_w hw 33 rfl)) (ty := (.array (.array .long))) (by decide)
   have f160 : Fld Z h150 ao "com/example/saturation/saturation/OpenNode" "pendingCount" "[I" .null := D150 (Or.inr (own_w hw 35 rfl)) (ty := (.array .int)) (by decide)
   have f161 : Fld Z h150 ao "com/example/saturation/saturation/OpenNode" "blocks" "I" (.int 0) := D150 (Or.inl (own_w hw 46 rfl)) (ty := .int) (by decide)
   have f162 : Fld Z h150 ao "com/example/saturation/saturation/OpenNode" "lastPosition" "I" (.int 0) := D150 (Or.inl (own_w hw 66 rfl)) (ty := .int) (by decide)
   have st163 := fun t kt => st109 t (ls150 t kt)
   have ltx : ex < ao := Nat.lt_of_lt_of_le lx (Nat.le_of_eq g150.symm)
   have st164 : own_K p e below T150 m 549 #[iv xa, iv xb, .val (.long xp), .second, iv xw, iv xc, iv xf, iv 1, iv (Int32.ofNat ev), iv md, iv sg, iv dg, iv v1, iv v2, iv c1, iv c2, iv c3, iv uw, rv ae, rv ex, iv (Int32.ofNat (2 * cn)), .unset, .unset] [.int (Int32.ofNat ev), .ref ae, .ref ao, .ref ao] B0 := fun t kt => st163 t (by
    refine XS.dup X150.here hx rfl (hb hby at_544) rfl rfl ?_
    refine XS.aload X150.here hx rfl (hb hby at_545) rfl rfl ?_
    refine XS.iload X150.here hx rfl (hb hby at_547) rfl ?_
    exact kt)
   obtain ⟨_, _, ⟨T165, L165, k165, n165⟩, -, X165, ⟨Lc165, hQ165, l165, y165, z165⟩, ls165⟩ := X150.specialBack hx (y := (⟨"com/example/saturation/saturation/OpenNode", "<init>", "([II)V"⟩ : MethodName)) rfl hown (mvT hZ (own_w hw 13 rfl)) (mvT hZ (own_w hw 14 rfl)) (mvT hZ (own_w hw 15 rfl)) (by decide) (backOf (W := 1) (rm_in1 l Z a0 hw [] ao ae ev ((fun q => if q = 1 then .int c1 else if q = 0 then .int v1 else .int 0)) v1 c1 h150 ao (Nat.le_of_lt A150.lt) f154 f155 f156 f157 f158 f159 f160 f161 f162 A150 (Nat.le_refl ao) f151 ((Ne.symm ne_ae_ao)) hev rfl rfl) hZ (own_w hw 15 rfl) (own_w hw 12 rfl) (by decide) (by decide)) (g := (mkF m 549 #[iv xa, iv xb, .val (.long xp), .second, iv xw, iv xc, iv xf, iv 1, iv (Int32.ofNat ev), iv md, iv sg, iv dg, iv v1, iv v2, iv c1, iv c2, iv c3, iv uw, rv ae, rv ex, iv (Int32.ofNat (2 * cn)), .unset, .unset] [.int (Int32.ofNat ev), .ref ae, .ref ao, .ref ao])) rfl (by rw [hml]; rfl) (Steps.refl _) (a := ao) (argsL := [.ref ae, .int (Int32.ofNat ev)]) (rest := [.ref ao]) (lenOf own_pd8 rfl) rfl (by show 2 * 0 + _ ≤ _; exact Nat.le_of_eq rfl) (hb hby at_549) (fun _ _ => ⟨rfl, e150, (by decide : 3 + 9 ≤ _), (by decide : 19 + 85 ≤ _)⟩)
   dsimp only [Pt.U, Pt.locs, Pt.cells, Pt.slots] at X165 l165 y165 z165 ls165 hQ165
   subst l165 y165 z165
   obtain ⟨rfl, Nq165, Zq165, Sm165, Nn165⟩ := hQ165
   have Nm165 : Fr n0 Lc165 := fun y hy => Nat.le_trans g_ao (Nq165 y hy)
   have N165 := Fr.app N109 Nm165
   have Zm165 := Nat.le_trans g_ao Zq165
   have st166 : own_K p e below T165 m 552 #[iv xa, iv xb, .val (.long xp), .second, iv xw, iv xc, iv xf, iv 1, iv (Int32.ofNat ev), iv md, iv sg, iv dg, iv v1, iv v2, iv c1, iv c2, iv c3, iv uw, rv ae, rv ex, iv (Int32.ofNat (2 * cn)), .unset, .unset] [.ref ao] B0 := fun t kt => st164 t (ls165.trans kt)
   have Eq165 := Nn165.1
   have Ax2 := f152.sm Sm165 (Nat.not_le.mpr ltx)
   exact ⟨ao, ex, ae, 1, 1, _, _, _, _, _, cn, fx, _, _, X165.more (by decide) (by decide), N165, Zm165, Nn165, Ax2, ⟨⟨_, own_St1 p1⟩, ltx, g_ao, by decide, by decide, by decide, by decide, fun x h1 h2 => absurd h2 (by omega), hF⟩, st166⟩
  ·subst hn
   have hc167 : ¬ ((2 : Int32) = (0 : Int32)) := by decide
   have hc168 : ¬ ((2 : Int32) = (1 : Int32)) := by decide
   have st169 : own_K p e below T20 m 227 #[iv xa, iv xb, .val (.long xp), .second, iv xw, iv xc, iv xf, iv 2, iv (Int32.ofNat ev), iv md, iv sg, iv dg, iv v1, iv v2, iv c1, iv c2, iv c3, iv uw, .unset, .unset, .unset, .unset, .unset] [.int 4] B0 := fun t kt => st23 t (by
    refine XS.iload X20.here hx rfl (hb hby at_189) rfl ?_
    refine XS.ifYes X20.here hx rfl (pc0 := 191) (pc' := 202) rfl (hb hby at_191) rfl ((if0 _ _).trans (feq hc167).2) (by decide) (by decide) ?_
    refine XS.iload X20.here hx rfl (hb hby at_202) rfl ?_
    refine XS.iconst X20.here hx rfl (hb hby at_204) ?_
    refine XS.icmpYes X20.here hx rfl (pc0 := 205) (pc' := 226) rfl (hb hby at_205) rfl (feq hc168).2 (by decide) (by decide) ?_
    refine XS.iconst X20.here hx rfl (hb hby at_226) ?_
    exact kt)
   obtain ⟨T170, h170, c170, X170, e170, E170, A170, ls170⟩ := newP X20 hx hZ (own_w hw 6 rfl) eq20 (g := (mkF m 227 #[iv xa, iv xb, .val (.long xp), .second, iv xw, iv xc, iv xf, iv 2, iv (Int32.ofNat ev), iv md, iv sg, iv dg, iv v1, iv v2, iv c1, iv c2, iv c3, iv uw, .unset, .unset, .unset, .unset, .unset] [.int 4])) rfl (hb hby at_227) rfl (by decide) (cap := 4) (by decide) (by decide) (by decide) (by decide)
   obtain ⟨ae, g170⟩ : ∃ z, z = h0.size := ⟨_, rfl⟩
   rw [← g170] at A170 ls170
   have g_ae : n0 ≤ ae := Nat.le_trans Z0 (Nat.le_of_eq g170.symm)
   have z171 := Nat.le_trans Z0 E170.1
   have f172 : own_Av Z h170 ae .int 4 (fun _ => (.int 0)) := own_Av.new A170 (by decide) (by decide)
   have st173 := fun t kt => st169 t (ls170 t kt)
   have st174 : own_K p e below T170 m 233 #[iv xa, iv xb, .val (.long xp), .second, iv xw, iv xc, iv xf, iv 2, iv (Int32.ofNat ev), iv md, iv sg, iv dg, iv v1, iv v2, iv c1, iv c2, iv c3, iv uw, .unset, .unset, .unset, .unset, .unset] [.int v1, .int 0, .ref ae, .ref ae] B0 := fun t kt => st173 t (by
    refine XS.dup X170.here hx rfl (hb hby at_229) rfl rfl ?_
    refine XS.iconst X170.here hx rfl (hb hby at_230) ?_
    refine XS.iload X170.here hx rfl (hb hby at_231) rfl ?_
    exact kt)
   obtain ⟨T175, h175, X175, e175, W175, B175, ls175⟩ := own_iastore X170 hx hZ e170 f172 (j := (0 : Int32)) (i := 0) (by decide) (by decide) (by decide) (g := (mkF m 233 #[iv xa, iv xb, .val (.long xp), .second, iv xw, iv xc, iv xf, iv 2, iv (Int32.ofNat ev), iv md, iv sg, iv dg, iv v1, iv v2, iv c1, iv c2, iv c3, iv uw, .unset, .unset, .unset, .unset, .unset] [.int v1, .int 0, .ref ae, .ref ae])) rfl rfl (hb hby at_233)
   have N175 := Fr.snoc X175 N20 g_ae
   have z176 := Nat.le_trans z171 (Keep.of_wr W175).1
   have f177 := B175.congr (g := (fun q => if q = 0 then .int v1 else .int 0)) (fun q hq => rfl)
   have st178 := fun t kt => st174 t (ls175 t kt)
   have st179 : own_K p e below T175 m 238 #[iv xa, iv xb, .val (.long xp), .second, iv xw, iv xc, iv xf, iv 2, iv (Int32.ofNat ev), iv md, iv sg, iv dg, iv v1, iv v2, iv c1, iv c2, iv c3, iv uw, .unset, .unset, .unset, .unset, .unset] [.int c1, .int 1, .ref ae, .ref ae] B0 := fun t kt => st178 t (by
    refine XS.dup X175.here hx rfl (hb hby at_234) rfl rfl ?_
    refine XS.iconst X175.here hx rfl (hb hby at_235) ?_
    refine XS.iload X175.here hx rfl (hb hby at_236) rfl ?_
    exact kt)
   obtain ⟨T180, h180, X180, e180, W180, B180, ls180⟩ := own_iastore X175 hx hZ e175 f177 (j := (1 : Int32)) (i := 1) (by decide) (by decide) (by decide) (g := (mkF m 238 #[iv xa, iv xb, .val (.long xp), .second, iv xw, iv xc, iv xf, iv 2, iv (Int32.ofNat ev), iv md, iv sg, iv dg, iv v1, iv v2, iv c1, iv c2, iv c3, iv uw, .unset, .unset, .unset, .unset, .unset] [.int c1, .int 1, .ref ae, .ref ae])) rfl rfl (hb hby at_238)
   have N180 := Fr.snoc X180 N175 g_ae
   have z181 := Nat.le_trans z176 (Keep.of_wr W180).1
   have f182 := B180.congr (g := (fun q => if q = 1 then .int c1 else if q = 0 then .int v1 else .int 0)) (fun q hq => rfl)
   have st183 := fun t kt => st179 t (ls180 t kt)
   have st184 : own_K p e below T180 m 243 #[iv xa, iv xb, .val (.long xp), .second, iv xw, iv xc, iv xf, iv 2, iv (Int32.ofNat ev), iv md, iv sg, iv dg, iv v1, iv v2, iv c1, iv c2, iv c3, iv uw, .unset, .unset, .unset, .unset, .unset] [.int v2, .int 2, .ref ae, .ref ae] B0 := fun t kt => st183 t (by
    refine XS.dup X180.here hx rfl (hb hby at_239) rfl rfl ?_
    refine XS.iconst X180.here hx rfl (hb hby at_240) ?_
    refine XS.iload X180.here hx rfl (hb hby at_241) rfl ?_
    exact kt)
   obtain ⟨T185, h185, X185, e185, W185, B185, ls185⟩ := own_iastore X180 hx hZ e180 f182 (j := (2 : Int32)) (i := 2) (by decide) (by decide) (by decide) (g := (mkF m 243 #[iv xa, iv xb, .val (.long xp), .second, iv xw, iv xc, iv xf, iv 2, iv (Int32.ofNat ev), iv md, iv sg, iv dg, iv v1, iv v2, iv c1, iv c2, iv c3, iv uw, .unset, .unset, .unset, .unset, .unset] [.int v2, .int 2, .ref ae, .ref ae])) rfl rfl (hb hby at_243)
   have N185 := Fr.snoc X185 N180 g_ae
   have z186 := Nat.le_trans z181 (Keep.of_wr W185).1
   have f187 := B185.congr (g := (fun q => if q = 2 then .int v2 else if q = 1 then .int c1 else if q = 0 then .int v1 else .int 0)) (fun q hq => rfl)
   have st188 := fun t kt => st184 t (ls185 t kt)
   have st189 : own_K p e below T185 m 248 #[iv xa, iv xb, .val (.long xp), .second, iv xw, iv xc, iv xf, iv 2, iv (Int32.ofNat ev), iv md, iv sg, iv dg, iv v1, iv v2, iv c1, iv c2, iv c3, iv uw, .unset, .unset, .unset, .unset, .unset] [.int c2, .int 3, .ref ae, .ref ae] B0 := fun t kt => st188 t (by
    refine XS.dup X185.here hx rfl (hb hby at_244) rfl rfl ?_
    refine XS.iconst X185.here hx rfl (hb hby at_245) ?_
    refine XS.iload X185.here hx rfl (hb hby at_246) rfl ?_
    exact kt)
   obtain ⟨T190, h190, X190, e190, W190, B190, ls190⟩ := own_iastore X185 hx hZ e185 f187 (j := (3 : Int32)) (i := 3) (by decide) (by decide) (by decide) (g := (mkF m 248 #[iv xa, iv xb, .val (.long xp), .second, iv xw, iv xc, iv xf, iv 2, iv (Int32.ofNat ev), iv md, iv sg, iv dg, iv v1, iv v2, iv c1, iv c2, iv c3, iv uw, .unset, .unset, .unset, .unset, .unset] [.int c2, .int 3, .ref ae, .ref ae])) rfl rfl (hb hby at_248)
   have N190 := Fr.snoc X190 N185 g_ae
   have z191 := Nat.le_trans z186 (Keep.of_wr W190).1
   have f192 := B190.congr (g := (fun q => if q = 3 then .int c2 else if q = 2 then .int v2 else if q = 1 then .int c1 else if q = 0 then .int v1 else .int 0)) (fun q hq => rfl)
   have st193 := fun t kt => st189 t (ls190 t kt)
   have st194 : own_K p e below T190 m 253 #[iv xa, iv xb, .val (.long xp), .second, iv xw, iv xc, iv xf, iv 2, iv (Int32.ofNat ev), iv md, iv sg, iv dg, iv v1, iv v2, iv c1, iv c2, iv c3, iv uw, rv ae, .unset, .unset, .unset, .unset] [.int 6] B0 := fun t kt => st193 t (by
    refine XS.astore X190.here hx rfl (hb hby at_249) rfl rfl (l' := #[iv xa, iv xb, .val (.long xp), .second, iv xw, iv xc, iv xf, iv 2, iv (Int32.ofNat ev), iv md, iv sg, iv dg, iv v1, iv v2, iv c1, iv c2, iv c3, iv uw, rv ae, .unset, .unset, .unset, .unset]) rfl ?_
    refine XS.bipush X190.here hx rfl (hb hby at_251) ?_
    exact kt)
   obtain ⟨T195, h195, c195, X195, e195, E195, A195, ls195⟩ := newP X190 hx hZ (own_w hw 6 rfl) e190 (g := (mkF m 253 #[iv xa, iv xb, .val (.long xp), .second, iv xw, iv xc, iv xf, iv 2, iv (Int32.ofNat ev), iv md, iv sg, iv dg, iv v1, iv v2, iv c1, iv c2, iv c3, iv uw, rv ae, .unset, .unset, .unset, .unset] [.int 6])) rfl (hb hby at_253) rfl (by decide) (cap := 6) (by decide) (by decide) (by decide) (by decide)
   obtain ⟨ex, g195⟩ : ∃ z, z = h190.size := ⟨_, rfl⟩
   rw [← g195] at A195 ls195
   have ne_ae_ex : ae ≠ ex := Nat.ne_of_lt (Nat.lt_of_lt_of_le f192.lt (Nat.le_of_eq g195.symm))
   have g_ex : n0 ≤ ex := Nat.le_trans z191 (Nat.le_of_eq g195.symm)
   have f196 := f192.ext E195
   have z197 := Nat.le_trans z191 E195.1
   have f198 : own_Av Z h195 ex .int 6 (fun _ => (.int 0)) := own_Av.new A195 (by decide) (by decide)
   have st199 := fun t kt => st194 t (ls195 t kt)
   have hc200 : ¬ ((2 : Int32) < (1 : Int32)) := by decide
   have st201 : own_K p e below T195 m 276 #[iv xa, iv xb, .val (.long xp), .second, iv xw, iv xc, iv xf, iv 2, iv (Int32.ofNat ev), iv md, iv sg, iv dg, iv v1, iv v2, iv c1, iv c2, iv c3, iv uw, rv ae, rv ex, iv (Int32.ofNat (2 * 2)), .unset, .unset] [.int c1, .int v1, .int 0, .ref ex] B0 := fun t kt => st199 t (by
    refine XS.astore X195.here hx rfl (hb hby at_255) rfl rfl (l' := #[iv xa, iv xb, .val (.long xp), .second, iv xw, iv xc, iv xf, iv 2, iv (Int32.ofNat ev), iv md, iv sg, iv dg, iv v1, iv v2, iv c1, iv c2, iv c3, iv uw, rv ae, rv ex, .unset, .unset, .unset]) rfl ?_
    refine XS.iconst X195.here hx rfl (hb hby at_257) ?_
    refine XS.iload X195.here hx rfl (hb hby at_258) rfl ?_
    refine XS.imul X195.here hx rfl (hb hby at_260) rfl ?_
    show own_At p e below T195 m 261 #[iv xa, iv xb, .val (.long xp), .second, iv xw, iv xc, iv xf, iv 2, iv (Int32.ofNat ev), iv md, iv sg, iv dg, iv v1, iv v2, iv c1, iv c2, iv c3, iv uw, rv ae, rv ex, .unset, .unset, .unset] [(.int ((2 : Int32) * (2 : Int32)))] _
    rw [show ((2 : Int32) * (2 : Int32)) = (Int32.ofNat (2 * 2)) from (by decide)]
    refine XS.istore X195.here hx rfl (hb hby at_261) rfl (l' := #[iv xa, iv xb, .val (.long xp), .second, iv xw, iv xc, iv xf, iv 2, iv (Int32.ofNat ev), iv md, iv sg, iv dg, iv v1, iv v2, iv c1, iv c2, iv c3, iv uw, rv ae, rv ex, iv (Int32.ofNat (2 * 2)), .unset, .unset]) rfl ?_
    refine XS.iload X195.here hx rfl (hb hby at_263) rfl ?_
    refine XS.iconst X195.here hx rfl (hb hby at_265) ?_
    refine XS.icmpNo X195.here hx rfl (hb hby at_266) rfl (flt hc200).1 ?_
    refine XS.aload X195.here hx rfl (hb hby at_269) rfl rfl ?_
    refine XS.iconst X195.here hx rfl (hb hby at_271) ?_
    refine XS.iload X195.here hx rfl (hb hby at_272) rfl ?_
    refine XS.iload X195.here hx rfl (hb hby at_274) rfl ?_
    exact kt)
   obtain ⟨_, _, ⟨T202, L202, k202, n202⟩, -, X202, ⟨Lc202, hQ202, l202, y202, z202⟩, ls202⟩ := Jvm.LawKit.callS X195 hx (y := (⟨"com/example/saturation/saturation/OpenNodeEdgesPinLaw", "put", "([IIII)V"⟩ : MethodName)) hown (mvT hZ (own_w hw 7 rfl)) (mvT hZ (own_w hw 8 rfl)) (mvT hZ (own_w hw 3 rfl)) (mvT hZ (own_w hw 9 rfl)) (by decide) (backOf (W := 0) (rm_put l Z a0 hw [] ex v1 c1 0 ((fun _ => (.int 0))) h195 n0 z197 g_ex f198 (by decide)) hZ (own_w hw 9 rfl) (own_w hw 3 rfl) (by decide) (by decide)) (g := (mkF m 276 #[iv xa, iv xb, .val (.long xp), .second, iv xw, iv xc, iv xf, iv 2, iv (Int32.ofNat ev), iv md, iv sg, iv dg, iv v1, iv v2, iv c1, iv c2, iv c3, iv uw, rv ae, rv ex, iv (Int32.ofNat (2 * 2)), .unset, .unset] [.int c1, .int v1, .int 0, .ref ex])) rfl (by rw [hml]; rfl) (argsL := [.ref ex, .int 0, .int v1, .int c1]) (rest := []) (lenOf own_pd7 rfl) rfl (by show 2 * 0 + _ ≤ _; exact Nat.le_of_eq rfl) (hb hby at_276) (fun _ _ => ⟨rfl, e195, (by decide : 2 + 0 ≤ _), (by decide : 10 + 0 ≤ _)⟩)
   dsimp only [Pt.U, Pt.locs, Pt.cells, Pt.slots] at X202 l202 y202 z202 ls202 hQ202
   subst l202 y202 z202
   obtain ⟨rfl, Nq202, Kq202, Aq202⟩ := hQ202
   have N202 := Fr.app N190 Nq202
   have f203 := f196.keep Kq202 (ninS ne_ae_ex nin0)
   have z205 := Nat.le_trans z197 Kq202.1
   have st206 := fun t kt => st201 t (ls202 t kt)
   have hc207 : (2 : Int32) = (2 : Int32) := by decide
   have st208 : own_K p e below T202 m 292 #[iv xa, iv xb, .val (.long xp), .second, iv xw, iv xc, iv xf, iv 2, iv (Int32.ofNat ev), iv md, iv sg, iv dg, iv v1, iv v2, iv c1, iv c2, iv c3, iv uw, rv ae, rv ex, iv (Int32.ofNat (2 * 2)), .unset, .unset] [.int c2, .int v2, .int 2, .ref ex] B0 := fun t kt => st206 t (by
    refine XS.iload X202.here hx rfl (hb hby at_279) rfl ?_
    refine XS.iconst X202.here hx rfl (hb hby at_281) ?_
    refine XS.icmpNo X202.here hx rfl (hb hby at_282) rfl (teq hc207).2 ?_
    refine XS.aload X202.here hx rfl (hb hby at_285) rfl rfl ?_
    refine XS.iconst X202.here hx rfl (hb hby at_287) ?_
    refine XS.iload X202.here hx rfl (hb hby at_288) rfl ?_
    refine XS.iload X202.here hx rfl (hb hby at_290) rfl ?_
    exact kt)
   obtain ⟨_, _, ⟨T209, L209, k209, n209⟩, -, X209, ⟨Lc209, hQ209, l209, y209, z209⟩, ls209⟩ := Jvm.LawKit.callS X202 hx (y := (⟨"com/example/saturation/saturation/OpenNodeEdgesPinLaw", "put", "([IIII)V"⟩ : MethodName)) hown (mvT hZ (own_w hw 7 rfl)) (mvT hZ (own_w hw 8 rfl)) (mvT hZ (own_w hw 3 rfl)) (mvT hZ (own_w hw 9 rfl)) (by decide) (backOf (W := 0) (rm_put l Z a0 hw [] ex v2 c2 2 ((fun q => if q = 0 + 1 then .int c1 else if q = 0 then .int v1 else (fun _ => (.int 0)) q)) T202.heap n0 z205 g_ex Aq202 (by decide)) hZ (own_w hw 9 rfl) (own_w hw 3 rfl) (by decide) (by decide)) (g := (mkF m 292 #[iv xa, iv xb, .val (.long xp), .second, iv xw, iv xc, iv xf, iv 2, iv (Int32.ofNat ev), iv md, iv sg, iv dg, iv v1, iv v2, iv c1, iv c2, iv c3, iv uw, rv ae, rv ex, iv (Int32.ofNat (2 * 2)), .unset, .unset] [.int c2, .int v2, .int 2, .ref ex])) rfl (by rw [hml]; rfl) (argsL := [.ref ex, .int 2, .int v2, .int c2]) (rest := []) (lenOf own_pd7 rfl) rfl (by show 2 * 0 + _ ≤ _; exact Nat.le_of_eq rfl) (hb hby at_292) (fun _ _ => ⟨rfl, rfl, (by decide : 2 + 0 ≤ _), (by decide : 10 + 0 ≤ _)⟩)
   dsimp only [Pt.U, Pt.locs, Pt.cells, Pt.slots] at X209 l209 y209 z209 ls209 hQ209
   subst l209 y209 z209
   obtain ⟨rfl, Nq209, Kq209, Aq209⟩ := hQ209
   have N209 := Fr.app N202 Nq209
   have f210 := f203.keep Kq209 (ninS ne_ae_ex nin0)
   have z212 := Nat.le_trans z205 Kq209.1
   have st213 := fun t kt => st208 t (ls209 t kt)
   have st214 : own_K p e below T209 m 297 #[iv xa, iv xb, .val (.long xp), .second, iv xw, iv xc, iv xf, iv 2, iv (Int32.ofNat ev), iv md, iv sg, iv dg, iv v1, iv v2, iv c1, iv c2, iv c3, iv uw, rv ae, rv ex, iv (Int32.ofNat (2 * 2)), .unset, .unset] [.int dg] B0 := fun t kt => st213 t (by
    refine XS.iload X209.here hx rfl (hb hby at_295) rfl ?_
    exact kt)
   obtain ⟨cn, fx, T215, L215, X215, N215, Z215, Aae, Aex, hF, st215⟩ : ∃ (cn : Nat) (fx : Nat → Value) (T215 : State) (L' : List Loc), Stand p l e room_1 s m #[.int xa, .int xb, .long xp, .int xw, .int xc, .int xf] below meth c T215 L' 2 10 ∧ Fr n0 L' ∧ n0 ≤ T215.heap.size ∧ (own_Av Z T215.heap ae .int 4 (fun q => if q = 3 then .int c2 else if q = 2 then .int v2 else if q = 1 then .int c1 else if q = 0 then .int v1 else .int 0)) ∧ (own_Av Z T215.heap ex .int 6 fx) ∧ (own_Fin 2 (own_U (own_U own_F0 v1 c1) v2 c2) uw c3 dg cn fx) ∧ own_K p e below T215 m 541 #[iv xa, iv xb, .val (.long xp), .second, iv xw, iv xc, iv xf, iv 2, iv (Int32.ofNat ev), iv md, iv sg, iv dg, iv v1, iv v2, iv c1, iv c2, iv c3, iv uw, rv ae, rv ex, iv (Int32.ofNat (2 * cn)), .unset, .unset] [] B0 := by
    by_cases qd : dg = (0 : Int32)
    ·have st216 : own_K p e below T209 m 541 #[iv xa, iv xb, .val (.long xp), .second, iv xw, iv xc, iv xf, iv 2, iv (Int32.ofNat ev), iv md, iv sg, iv dg, iv v1, iv v2, iv c1, iv c2, iv c3, iv uw, rv ae, rv ex, iv (Int32.ofNat (2 * 2)), .unset, .unset] [] B0 := fun t kt => st214 t (by
      refine XS.ifYes X209.here hx rfl (pc0 := 297) (pc' := 541) rfl (hb hby at_297) rfl ((if0 _ _).trans (teq qd).1) (by decide) (by decide) ?_
      exact kt)
     exact ⟨2, (fun q => if q = 2 + 1 then .int c2 else if q = 2 then .int v2 else (fun q => if q = 0 + 1 then .int c1 else if q = 0 then .int v1 else (fun _ => (.int 0)) q) q), _, _, X209.more (by decide) (by decide), N209, z212, f210, Aq209, (own_b20 p1 zc1 p2 zc2 hl qd  rfl rfl rfl rfl), st216⟩
    ·have hc217 : ¬ ((2 : Int32) < (1 : Int32)) := by decide
     have st218 : own_K p e below T209 m 310 #[iv xa, iv xb, .val (.long xp), .second, iv xw, iv xc, iv xf, iv 2, iv (Int32.ofNat ev), iv md, iv sg, iv dg, iv v1, iv v2, iv c1, iv c2, iv c3, iv uw, rv ae, rv ex, iv (Int32.ofNat (2 * 2)), .unset, .unset] [.int v1, .int uw] B0 := fun t kt => st214 t (by
      refine XS.ifNo X209.here hx rfl (hb hby at_297) rfl ((if0 _ _).trans (feq qd).1) ?_
      refine XS.iload X209.here hx rfl (hb hby at_300) rfl ?_
      refine XS.iconst X209.here hx rfl (hb hby at_302) ?_
      refine XS.icmpNo X209.here hx rfl (hb hby at_303) rfl (flt hc217).1 ?_
      refine XS.iload X209.here hx rfl (hb hby at_306) rfl ?_
      refine XS.iload X209.here hx rfl (hb hby at_308) rfl ?_
      exact kt)
     by_cases q1 : uw = v1
     ·have st219 : own_K p e below T209 m 318 #[iv xa, iv xb, .val (.long xp), .second, iv xw, iv xc, iv xf, iv 2, iv (Int32.ofNat ev), iv md, iv sg, iv dg, iv v1, iv v2, iv c1, iv c2, iv c3, iv uw, rv ae, rv ex, iv (Int32.ofNat (2 * 2)), .unset, .unset] [.int c3, .int 1, .ref ex] B0 := fun t kt => st218 t (by
       refine XS.icmpNo X209.here hx rfl (hb hby at_310) rfl (teq q1).2 ?_
       refine XS.aload X209.here hx rfl (hb hby at_313) rfl rfl ?_
       refine XS.iconst X209.here hx rfl (hb hby at_315) ?_
       refine XS.iload X209.here hx rfl (hb hby at_316) rfl ?_
       exact kt)
      obtain ⟨T220, h220, X220, e220, W220, B220, ls220⟩ := own_iastore X209 hx hZ rfl Aq209 (j := (1 : Int32)) (i := 1) (by decide) (by decide) (by decide) (g := (mkF m 318 #[iv xa, iv xb, .val (.long xp), .second, iv xw, iv xc, iv xf, iv 2, iv (Int32.ofNat ev), iv md, iv sg, iv dg, iv v1, iv v2, iv c1, iv c2, iv c3, iv uw, rv ae, rv ex, iv (Int32.ofNat (2 * 2)), .unset, .unset] [.int c3, .int 1, .ref ex])) rfl rfl (hb hby at_318)
      have N220 := Fr.snoc X220 N209 g_ex
      have f221 := f210.other W220 ne_ae_ex
      have z222 := Nat.le_trans z212 (Keep.of_wr W220).1
      have f223 := B220
      have st224 := fun t kt => st219 t (ls220 t kt)
      have st225 : own_K p e below T220 m 541 #[iv xa, iv xb, .val (.long xp), .second, iv xw, iv xc, iv xf, iv 2, iv (Int32.ofNat ev), iv md, iv sg, iv dg, iv v1, iv v2, iv c1, iv c2, iv c3, iv uw, rv ae, rv ex, iv (Int32.ofNat (2 * 2)), .unset, .unset] [] B0 := fun t kt => st224 t (by
       refine XS.goto X220.here hx rfl (pc0 := 319) (pc' := 541) rfl (hb hby at_319) (by decide) (by decide) ?_
       exact kt)
      exact ⟨2, (fun q => if q = 1 then (.int c3) else (fun q => if q = 2 + 1 then .int c2 else if q = 2 then .int v2 else (fun q => if q = 0 + 1 then .int c1 else if q = 0 then .int v1 else (fun _ => (.int 0)) q) q) q), _, _, X220.more (by decide) (by decide), N220, (by rw [e220]; exact z222), (by rw [e220]; exact f221), (by rw [e220]; exact f223), (own_b2e p1 zc1 p2 zc2 hl hj23 zc3 qd q1 rfl rfl rfl rfl), st225⟩
     ·have hc226 : (2 : Int32) = (2 : Int32) := by decide
      have st227 : own_K p e below T209 m 332 #[iv xa, iv xb, .val (.long xp), .second, iv xw, iv xc, iv xf, iv 2, iv (Int32.ofNat ev), iv md, iv sg, iv dg, iv v1, iv v2, iv c1, iv c2, iv c3, iv uw, rv ae, rv ex, iv (Int32.ofNat (2 * 2)), .unset, .unset] [.int v2, .int uw] B0 := fun t kt => st218 t (by
       refine XS.icmpYes X209.here hx rfl (pc0 := 310) (pc' := 322) rfl (hb hby at_310) rfl (feq q1).2 (by decide) (by decide) ?_
       refine XS.iload X209.here hx rfl (hb hby at_322) rfl ?_
       refine XS.iconst X209.here hx rfl (hb hby at_324) ?_
       refine XS.icmpNo X209.here hx rfl (hb hby at_325) rfl (teq hc226).2 ?_
       refine XS.iload X209.here hx rfl (hb hby at_328) rfl ?_
       refine XS.iload X209.here hx rfl (hb hby at_330) rfl ?_
       exact kt)
      by_cases q2 : uw = v2
      ·have st228 : own_K p e below T209 m 340 #[iv xa, iv xb, .val (.long xp), .second, iv xw, iv xc, iv xf, iv 2, iv (Int32.ofNat ev), iv md, iv sg, iv dg, iv v1, iv v2, iv c1, iv c2, iv c3, iv uw, rv ae, rv ex, iv (Int32.ofNat (2 * 2)), .unset, .unset] [.int c3, .int 3, .ref ex] B0 := fun t kt => st227 t (by
        refine XS.icmpNo X209.here hx rfl (hb hby at_332) rfl (teq q2).2 ?_
        refine XS.aload X209.here hx rfl (hb hby at_335) rfl rfl ?_
        refine XS.iconst X209.here hx rfl (hb hby at_337) ?_
        refine XS.iload X209.here hx rfl (hb hby at_338) rfl ?_
        exact kt)
       obtain ⟨T229, h229, X229, e229, W229, B229, ls229⟩ := own_iastore X209 hx hZ rfl Aq209 (j := (3 : Int32)) (i := 3) (by decide) (by decide) (by decide) (g := (mkF m 340 #[iv xa, iv xb, .val (.long xp), .second, iv xw, iv xc, iv xf, iv 2, iv (Int32.ofNat ev), iv md, iv sg, iv dg, iv v1, iv v2, iv c1, iv c2, iv c3, iv uw, rv ae, rv ex, iv (Int32.ofNat (2 * 2)), .unset, .unset] [.int c3, .int 3, .ref ex])) rfl rfl (hb hby at_340)
       have N229 := Fr.snoc X229 N209 g_ex
       have f230 := f210.other W229 ne_ae_ex
       have z231 := Nat.le_trans z212 (Keep.of_wr W229).1
       have f232 := B229
       have st233 := fun t kt => st228 t (ls229 t kt)
       have st234 : own_K p e below T229 m 541 #[iv xa, iv xb, .val (.long xp), .second, iv xw, iv xc, iv xf, iv 2, iv (Int32.ofNat ev), iv md, iv sg, iv dg, iv v1, iv v2, iv c1, iv c2, iv c3, iv uw, rv ae, rv ex, iv (Int32.ofNat (2 * 2)), .unset, .unset] [] B0 := fun t kt => st233 t (by
        refine XS.goto X229.here hx rfl (pc0 := 341) (pc' := 541) rfl (hb hby at_341) (by decide) (by decide) ?_
        exact kt)
       exact ⟨2, (fun q => if q = 3 then (.int c3) else (fun q => if q = 2 + 1 then .int c2 else if q = 2 then .int v2 else (fun q => if q = 0 + 1 then .int c1 else if q = 0 then .int v1 else (fun _ => (.int 0)) q) q) q), _, _, X229.more (by decide) (by decide), N229, (by rw [e229]; exact z231), (by rw [e229]; exact f230), (by rw [e229]; exact f232), (own_b2f p1 zc1 p2 zc2 hl hj23 zc3 qd q1 q2 rfl rfl rfl rfl), st234⟩
      ·have hc235 : ¬ ((2 : Int32) = (0 : Int32)) := by decide
       have hc236 : ¬ ((2 : Int32) = (1 : Int32)) := by decide
       have st237 : own_K p e below T209 m 431 #[iv xa, iv xb, .val (.long xp), .second, iv xw, iv xc, iv xf, iv 2, iv (Int32.ofNat ev), iv md, iv sg, iv dg, iv v1, iv v2, iv c1, iv c2, iv c3, iv uw, rv ae, rv ex, iv (Int32.ofNat (2 * 2)), .unset, .unset] [.int v1, .int uw] B0 := fun t kt => st227 t (by
        refine XS.icmpYes X209.here hx rfl (pc0 := 332) (pc' := 344) rfl (hb hby at_332) rfl (feq q2).2 (by decide) (by decide) ?_
        refine XS.iload X209.here hx rfl (hb hby at_344) rfl ?_
        refine XS.ifYes X209.here hx rfl (pc0 := 346) (pc' := 365) rfl (hb hby at_346) rfl ((if0 _ _).trans (feq hc235).2) (by decide) (by decide) ?_
        refine XS.iload X209.here hx rfl (hb hby at_365) rfl ?_
        refine XS.iconst X209.here hx rfl (hb hby at_367) ?_
        refine XS.icmpYes X209.here hx rfl (pc0 := 368) (pc' := 427) rfl (hb hby at_368) rfl (feq hc236).2 (by decide) (by decide) ?_
        refine XS.iload X209.here hx rfl (hb hby at_427) rfl ?_
        refine XS.iload X209.here hx rfl (hb hby at_429) rfl ?_
        exact kt)
       by_cases q3 : uw < v1
       ·have st238 : own_K p e below T209 m 441 #[iv xa, iv xb, .val (.long xp), .second, iv xw, iv xc, iv xf, iv 2, iv (Int32.ofNat ev), iv md, iv sg, iv dg, iv v1, iv v2, iv c1, iv c2, iv c3, iv uw, rv ae, rv ex, iv (Int32.ofNat (2 * 2)), .unset, .unset] [.int c3, .int uw, .int 0, .ref ex] B0 := fun t kt => st237 t (by
         refine XS.icmpNo X209.here hx rfl (hb hby at_431) rfl (tlt q3).2.1 ?_
         refine XS.aload X209.here hx rfl (hb hby at_434) rfl rfl ?_
         refine XS.iconst X209.here hx rfl (hb hby at_436) ?_
         refine XS.iload X209.here hx rfl (hb hby at_437) rfl ?_
         refine XS.iload X209.here hx rfl (hb hby at_439) rfl ?_
         exact kt)
        obtain ⟨_, _, ⟨T239, L239, k239, n239⟩, -, X239, ⟨Lc239, hQ239, l239, y239, z239⟩, ls239⟩ := Jvm.LawKit.callS X209 hx (y := (⟨"com/example/saturation/saturation/OpenNodeEdgesPinLaw", "put", "([IIII)V"⟩ : MethodName)) hown (mvT hZ (own_w hw 7 rfl)) (mvT hZ (own_w hw 8 rfl)) (mvT hZ (own_w hw 3 rfl)) (mvT hZ (own_w hw 9 rfl)) (by decide) (backOf (W := 0) (rm_put l Z a0 hw [] ex uw c3 0 ((fun q => if q = 2 + 1 then .int c2 else if q = 2 then .int v2 else (fun q => if q = 0 + 1 then .int c1 else if q = 0 then .int v1 else (fun _ => (.int 0)) q) q)) T209.heap n0 z212 g_ex Aq209 (by decide)) hZ (own_w hw 9 rfl) (own_w hw 3 rfl) (by decide) (by decide)) (g := (mkF m 441 #[iv xa, iv xb, .val (.long xp), .second, iv xw, iv xc, iv xf, iv 2, iv (Int32.ofNat ev), iv md, iv sg, iv dg, iv v1, iv v2, iv c1, iv c2, iv c3, iv uw, rv ae, rv ex, iv (Int32.ofNat (2 * 2)), .unset, .unset] [.int c3, .int uw, .int 0, .ref ex])) rfl (by rw [hml]; rfl) (argsL := [.ref ex, .int 0, .int uw, .int c3]) (rest := []) (lenOf own_pd7 rfl) rfl (by show 2 * 0 + _ ≤ _; exact Nat.le_of_eq rfl) (hb hby at_441) (fun _ _ => ⟨rfl, rfl, (by decide : 2 + 0 ≤ _), (by decide : 10 + 0 ≤ _)⟩)
        dsimp only [Pt.U, Pt.locs, Pt.cells, Pt.slots] at X239 l239 y239 z239 ls239 hQ239
        subst l239 y239 z239
        obtain ⟨rfl, Nq239, Kq239, Aq239⟩ := hQ239
        have N239 := Fr.app N209 Nq239
        have f240 := f210.keep Kq239 (ninS ne_ae_ex nin0)
        have z242 := Nat.le_trans z212 Kq239.1
        have st243 := fun t kt => st238 t (ls239 t kt)
        have st244 : own_K p e below T239 m 451 #[iv xa, iv xb, .val (.long xp), .second, iv xw, iv xc, iv xf, iv 2, iv (Int32.ofNat ev), iv md, iv sg, iv dg, iv v1, iv v2, iv c1, iv c2, iv c3, iv uw, rv ae, rv ex, iv (Int32.ofNat (2 * 2)), .unset, .unset] [.int c1, .int v1, .int 2, .ref ex] B0 := fun t kt => st243 t (by
         refine XS.aload X239.here hx rfl (hb hby at_444) rfl rfl ?_
         refine XS.iconst X239.here hx rfl (hb hby at_446) ?_
         refine XS.iload X239.here hx rfl (hb hby at_447) rfl ?_
         refine XS.iload X239.here hx rfl (hb hby at_449) rfl ?_
         exact kt)
        obtain ⟨_, _, ⟨T245, L245, k245, n245⟩, -, X245, ⟨Lc245, hQ245, l245, y245, z245⟩, ls245⟩ := Jvm.LawKit.callS X239 hx (y := (⟨"com/example/saturation/saturation/OpenNodeEdgesPinLaw", "put", "([IIII)V"⟩ : MethodName)) hown (mvT hZ (own_w hw 7 rfl)) (mvT hZ (own_w hw 8 rfl)) (mvT hZ (own_w hw 3 rfl)) (mvT hZ (own_w hw 9 rfl)) (by decide) (backOf (W := 0) (rm_put l Z a0 hw [] ex v1 c1 2 ((fun q => if q = 0 + 1 then .int c3 else if q = 0 then .int uw else (fun q => if q = 2 + 1 then .int c2 else if q = 2 then .int v2 else (fun q => if q = 0 + 1 then .int c1 else if q = 0 then .int v1 else (fun _ => (.int 0)) q) q) q)) T239.heap n0 z242 g_ex Aq239 (by decide)) hZ (own_w hw 9 rfl) (own_w hw 3 rfl) (by decide) (by decide)) (g := (mkF m 451 #[iv xa, iv xb, .val (.long xp), .second, iv xw, iv xc, iv xf, iv 2, iv (Int32.ofNat ev), iv md, iv sg, iv dg, iv v1, iv v2, iv c1, iv c2, iv c3, iv uw, rv ae, rv ex, iv (Int32.ofNat (2 * 2)), .unset, .unset] [.int c1, .int v1, .int 2, .ref ex])) rfl (by rw [hml]; rfl) (argsL := [.ref ex, .int 2, .int v1, .int c1]) (rest := []) (lenOf own_pd7 rfl) rfl (by show 2 * 0 + _ ≤ _; exact Nat.le_of_eq rfl) (hb hby at_451) (fun _ _ => ⟨rfl, rfl, (by decide : 2 + 0 ≤ _), (by decide : 10 + 0 ≤ _)⟩)
        dsimp only [Pt.U, Pt.locs, Pt.cells, Pt.slots] at X245 l245 y245 z245 ls245 hQ245
        subst l245 y245 z245
        obtain ⟨rfl, Nq245, Kq245, Aq245⟩ := hQ245
        have N245 := Fr.app N239 Nq245
        have f246 := f240.keep Kq245 (ninS ne_ae_ex nin0)
        have z248 := Nat.le_trans z242 Kq245.1
        have st249 := fun t kt => st244 t (ls245 t kt)
        have st250 : own_K p e below T245 m 461 #[iv xa, iv xb, .val (.long xp), .second, iv xw, iv xc, iv xf, iv 2, iv (Int32.ofNat ev), iv md, iv sg, iv dg, iv v1, iv v2, iv c1, iv c2, iv c3, iv uw, rv ae, rv ex, iv (Int32.ofNat (2 * 2)), .unset, .unset] [.int c2, .int v2, .int 4, .ref ex] B0 := fun t kt => st249 t (by
         refine XS.aload X245.here hx rfl (hb hby at_454) rfl rfl ?_
         refine XS.iconst X245.here hx rfl (hb hby at_456) ?_
         refine XS.iload X245.here hx rfl (hb hby at_457) rfl ?_
         refine XS.iload X245.here hx rfl (hb hby at_459) rfl ?_
         exact kt)
        obtain ⟨_, _, ⟨T251, L251, k251, n251⟩, -, X251, ⟨Lc251, hQ251, l251, y251, z251⟩, ls251⟩ := Jvm.LawKit.callS X245 hx (y := (⟨"com/example/saturation/saturation/OpenNodeEdgesPinLaw", "put", "([IIII)V"⟩ : MethodName)) hown (mvT hZ (own_w hw 7 rfl)) (mvT hZ (own_w hw 8 rfl)) (mvT hZ (own_w hw 3 rfl)) (mvT hZ (own_w hw 9 rfl)) (by decide) (backOf (W := 0) (rm_put l Z a0 hw [] ex v2 c2 4 ((fun q => if q = 2 + 1 then .int c1 else if q = 2 then .int v1 else (fun q => if q = 0 + 1 then .int c3 else if q = 0 then .int uw else (fun q => if q = 2 + 1 then .int c2 else if q = 2 then .int v2 else (fun q => if q = 0 + 1 then .int c1 else if q = 0 then .int v1 else (fun _ => (.int 0)) q) q) q) q)) T245.heap n0 z248 g_ex Aq245 (by decide)) hZ (own_w hw 9 rfl) (own_w hw 3 rfl) (by decide) (by decide)) (g := (mkF m 461 #[iv xa, iv xb, .val (.long xp), .second, iv xw, iv xc, iv xf, iv 2, iv (Int32.ofNat ev), iv md, iv sg, iv dg, iv v1, iv v2, iv c1, iv c2, iv c3, iv uw, rv ae, rv ex, iv (Int32.ofNat (2 * 2)), .unset, .unset] [.int c2, .int v2, .int 4, .ref ex])) rfl (by rw [hml]; rfl) (argsL := [.ref ex, .int 4, .int v2, .int c2]) (rest := []) (lenOf own_pd7 rfl) rfl (by show 2 * 0 + _ ≤ _; exact Nat.le_of_eq rfl) (hb hby at_461) (fun _ _ => ⟨rfl, rfl, (by decide : 2 + 0 ≤ _), (by decide : 10 + 0 ≤ _)⟩)
        dsimp only [Pt.U, Pt.locs, Pt.cells, Pt.slots] at X251 l251 y251 z251 ls251 hQ251
        subst l251 y251 z251
        obtain ⟨rfl, Nq251, Kq251, Aq251⟩ := hQ251
        have N251 := Fr.app N245 Nq251
        have f252 := f246.keep Kq251 (ninS ne_ae_ex nin0)
        have z254 := Nat.le_trans z248 Kq251.1
        have st255 := fun t kt => st250 t (ls251 t kt)
        have st256 : own_K p e below T251 m 541 #[iv xa, iv xb, .val (.long xp), .second, iv xw, iv xc, iv xf, iv 2, iv (Int32.ofNat ev), iv md, iv sg, iv dg, iv v1, iv v2, iv c1, iv c2, iv c3, iv uw, rv ae, rv ex, iv (Int32.ofNat (2 * 3)), .unset, .unset] [] B0 := fun t kt => st255 t (by
         refine XS.goto X251.here hx rfl (pc0 := 464) (pc' := 537) rfl (hb hby at_464) (by decide) (by decide) ?_
         refine XS.bipush X251.here hx rfl (hb hby at_537) ?_
         show own_At p e below T251 m 539 #[iv xa, iv xb, .val (.long xp), .second, iv xw, iv xc, iv xf, iv 2, iv (Int32.ofNat ev), iv md, iv sg, iv dg, iv v1, iv v2, iv c1, iv c2, iv c3, iv uw, rv ae, rv ex, iv (Int32.ofNat (2 * 2)), .unset, .unset] [.int 6] _
         rw [show (6 : Int32) = (Int32.ofNat (2 * 3)) from (by decide)]
         refine XS.istore X251.here hx rfl (hb hby at_539) rfl (l' := #[iv xa, iv xb, .val (.long xp), .second, iv xw, iv xc, iv xf, iv 2, iv (Int32.ofNat ev), iv md, iv sg, iv dg, iv v1, iv v2, iv c1, iv c2, iv c3, iv uw, rv ae, rv ex, iv (Int32.ofNat (2 * 3)), .unset, .unset]) rfl ?_
         exact kt)
        exact ⟨3, (fun q => if q = 4 + 1 then .int c2 else if q = 4 then .int v2 else (fun q => if q = 2 + 1 then .int c1 else if q = 2 then .int v1 else (fun q => if q = 0 + 1 then .int c3 else if q = 0 then .int uw else (fun q => if q = 2 + 1 then .int c2 else if q = 2 then .int v2 else (fun q => if q = 0 + 1 then .int c1 else if q = 0 then .int v1 else (fun _ => (.int 0)) q) q) q) q) q), _, _, X251.more (by decide) (by decide), N251, z254, f252, Aq251, (own_b2l p1 zc1 p2 zc2 hl hj23 zc3 qd q1 q2 q3 rfl rfl rfl rfl rfl rfl), st256⟩
       ·have st257 : own_K p e below T209 m 471 #[iv xa, iv xb, .val (.long xp), .second, iv xw, iv xc, iv xf, iv 2, iv (Int32.ofNat ev), iv md, iv sg, iv dg, iv v1, iv v2, iv c1, iv c2, iv c3, iv uw, rv ae, rv ex, iv (Int32.ofNat (2 * 2)), .unset, .unset] [.int v2, .int uw] B0 := fun t kt => st237 t (by
         refine XS.icmpYes X209.here hx rfl (pc0 := 431) (pc' := 467) rfl (hb hby at_431) rfl (flt q3).2.1 (by decide) (by decide) ?_
         refine XS.iload X209.here hx rfl (hb hby at_467) rfl ?_
         refine XS.iload X209.here hx rfl (hb hby at_469) rfl ?_
         exact kt)
        by_cases q4 : uw < v2
        ·have st258 : own_K p e below T209 m 481 #[iv xa, iv xb, .val (.long xp), .second, iv xw, iv xc, iv xf, iv 2, iv (Int32.ofNat ev), iv md, iv sg, iv dg, iv v1, iv v2, iv c1, iv c2, iv c3, iv uw, rv ae, rv ex, iv (Int32.ofNat (2 * 2)), .unset, .unset] [.int c1, .int v1, .int 0, .ref ex] B0 := fun t kt => st257 t (by
          refine XS.icmpNo X209.here hx rfl (hb hby at_471) rfl (tlt q4).2.1 ?_
          refine XS.aload X209.here hx rfl (hb hby at_474) rfl rfl ?_
          refine XS.iconst X209.here hx rfl (hb hby at_476) ?_
          refine XS.iload X209.here hx rfl (hb hby at_477) rfl ?_
          refine XS.iload X209.here hx rfl (hb hby at_479) rfl ?_
          exact kt)
         obtain ⟨_, _, ⟨T259, L259, k259, n259⟩, -, X259, ⟨Lc259, hQ259, l259, y259, z259⟩, ls259⟩ := Jvm.LawKit.callS X209 hx (y := (⟨"com/example/saturation/saturation/OpenNodeEdgesPinLaw", "put", "([IIII)V"⟩ : MethodName)) hown (mvT hZ (own_w hw 7 rfl)) (mvT hZ (own_w hw 8 rfl)) (mvT hZ (own_w hw 3 rfl)) (mvT hZ (own_w hw 9 rfl)) (by decide) (backOf (W := 0) (rm_put l Z a0 hw [] ex v1 c1 0 ((fun q => if q = 2 + 1 then .int c2 else if q = 2 then .int v2 else (fun q => if q = 0 + 1 then .int c1 else if q = 0 then .int v1 else (fun _ => (.int 0)) q) q)) T209.heap n0 z212 g_ex Aq209 (by decide)) hZ (own_w hw 9 rfl) (own_w hw 3 rfl) (by decide) (by decide)) (g := (mkF m 481 #[iv xa, iv xb, .val (.long xp), .second, iv xw, iv xc, iv xf, iv 2, iv (Int32.ofNat ev), iv md, iv sg, iv dg, iv v1, iv v2, iv c1, iv c2, iv c3, iv uw, rv ae, rv ex, iv (Int32.ofNat (2 * 2)), .unset, .unset] [.int c1, .int v1, .int 0, .ref ex])) rfl (by rw [hml]; rfl) (argsL := [.ref ex, .int 0, .int v1, .int c1]) (rest := []) (lenOf own_pd7 rfl) rfl (by show 2 * 0 + _ ≤ _; exact Nat.le_of_eq rfl) (hb hby at_481) (fun _ _ => ⟨rfl, rfl, (by decide : 2 + 0 ≤ _), (by decide : 10 + 0 ≤ _)⟩)
         dsimp only [Pt.U, Pt.locs, Pt.cells, Pt.slots] at X259 l259 y259 z259 ls259 hQ259
         subst l259 y259 z259
         obtain ⟨rfl, Nq259, Kq259, Aq259⟩ := hQ259
         have N259 := Fr.app N209 Nq259
         have f260 := f210.keep Kq259 (ninS ne_ae_ex nin0)
         have z262 := Nat.le_trans z212 Kq259.1
         have st263 := fun t kt => st258 t (ls259 t kt)
         have st264 : own_K p e below T259 m 491 #[iv xa, iv xb, .val (.long xp), .second, iv xw, iv xc, iv xf, iv 2, iv (Int32.ofNat ev), iv md, iv sg, iv dg, iv v1, iv v2, iv c1, iv c2, iv c3, iv uw, rv ae, rv ex, iv (Int32.ofNat (2 * 2)), .unset, .unset] [.int c3, .int uw, .int 2, .ref ex] B0 := fun t kt => st263 t (by
          refine XS.aload X259.here hx rfl (hb hby at_484) rfl rfl ?_
          refine XS.iconst X259.here hx rfl (hb hby at_486) ?_
          refine XS.iload X259.here hx rfl (hb hby at_487) rfl ?_
          refine XS.iload X259.here hx rfl (hb hby at_489) rfl ?_
          exact kt)
         obtain ⟨_, _, ⟨T265, L265, k265, n265⟩, -, X265, ⟨Lc265, hQ265, l265, y265, z265⟩, ls265⟩ := Jvm.LawKit.callS X259 hx (y := (⟨"com/example/saturation/saturation/OpenNodeEdgesPinLaw", "put", "([IIII)V"⟩ : MethodName)) hown (mvT hZ (own_w hw 7 rfl)) (mvT hZ (own_w hw 8 rfl)) (mvT hZ (own_w hw 3 rfl)) (mvT hZ (own_w hw 9 rfl)) (by decide) (backOf (W := 0) (rm_put l Z a0 hw [] ex uw c3 2 ((fun q => if q = 0 + 1 then .int c1 else if q = 0 then .int v1 else (fun q => if q = 2 + 1 then .int c2 else if q = 2 then .int v2 else (fun q => if q = 0 + 1 then .int c1 else if q = 0 then .int v1 else (fun _ => (.int 0)) q) q) q)) T259.heap n0 z262 g_ex Aq259 (by decide)) hZ (own_w hw 9 rfl) (own_w hw 3 rfl) (by decide) (by decide)) (g := (mkF m 491 #[iv xa, iv xb, .val (.long xp), .second, iv xw, iv xc, iv xf, iv 2, iv (Int32.ofNat ev), iv md, iv sg, iv dg, iv v1, iv v2, iv c1, iv c2, iv c3, iv uw, rv ae, rv ex, iv (Int32.ofNat (2 * 2)), .unset, .unset] [.int c3, .int uw, .int 2, .ref ex])) rfl (by rw [hml]; rfl) (argsL := [.ref ex, .int 2, .int uw, .int c3]) (rest := []) (lenOf own_pd7 rfl) rfl (by show 2 * 0 + _ ≤ _; exact Nat.le_of_eq rfl) (hb hby at_491) (fun _ _ => ⟨rfl, rfl, (by decide : 2 + 0 ≤ _), (by decide : 10 + 0 ≤ _)⟩)
         dsimp only [Pt.U, Pt.locs, Pt.cells, Pt.slots] at X265 l265 y265 z265 ls265 hQ265
         subst l265 y265 z265
         obtain ⟨rfl, Nq265, Kq265, Aq265⟩ := hQ265
         have N265 := Fr.app N259 Nq265
         have f266 := f260.keep Kq265 (ninS ne_ae_ex nin0)
         have z268 := Nat.le_trans z262 Kq265.1
         have st269 := fun t kt => st264 t (ls265 t kt)
         have st270 : own_K p e below T265 m 501 #[iv xa, iv xb, .val (.long xp), .second, iv xw, iv xc, iv xf, iv 2, iv (Int32.ofNat ev), iv md, iv sg, iv dg, iv v1, iv v2, iv c1, iv c2, iv c3, iv uw, rv ae, rv ex, iv (Int32.ofNat (2 * 2)), .unset, .unset] [.int c2, .int v2, .int 4, .ref ex] B0 := fun t kt => st269 t (by
          refine XS.aload X265.here hx rfl (hb hby at_494) rfl rfl ?_
          refine XS.iconst X265.here hx rfl (hb hby at_496) ?_
          refine XS.iload X265.here hx rfl (hb hby at_497) rfl ?_
          refine XS.iload X265.here hx rfl (hb hby at_499) rfl ?_
          exact kt)
         obtain ⟨_, _, ⟨T271, L271, k271, n271⟩, -, X271, ⟨Lc271, hQ271, l271, y271, z271⟩, ls271⟩ := Jvm.LawKit.callS X265 hx (y := (⟨"com/example/saturation/saturation/OpenNodeEdgesPinLaw", "put", "([IIII)V"⟩ : MethodName)) hown (mvT hZ (own_w hw 7 rfl)) (mvT hZ (own_w hw 8 rfl)) (mvT hZ (own_w hw 3 rfl)) (mvT hZ (own_w hw 9 rfl)) (by decide) (backOf (W := 0) (rm_put l Z a0 hw [] ex v2 c2 4 ((fun q => if q = 2 + 1 then .int c3 else if q = 2 then .int uw else (fun q => if q = 0 + 1 then .int c1 else if q = 0 then .int v1 else (fun q => if q = 2 + 1 then .int c2 else if q = 2 then .int v2 else (fun q => if q = 0 + 1 then .int c1 else if q = 0 then .int v1 else (fun _ => (.int 0)) q) q) q) q)) T265.heap n0 z268 g_ex Aq265 (by decide)) hZ (own_w hw 9 rfl) (own_w hw 3 rfl) (by decide) (by decide)) (g := (mkF m 501 #[iv xa, iv xb, .val (.long xp), .second, iv xw, iv xc, iv xf, iv 2, iv (Int32.ofNat ev), iv md, iv sg, iv dg, iv v1, iv v2, iv c1, iv c2, iv c3, iv uw, rv ae, rv ex, iv (Int32.ofNat (2 * 2)), .unset, .unset] [.int c2, .int v2, .int 4, .ref ex])) rfl (by rw [hml]; rfl) (argsL := [.ref ex, .int 4, .int v2, .int c2]) (rest := []) (lenOf own_pd7 rfl) rfl (by show 2 * 0 + _ ≤ _; exact Nat.le_of_eq rfl) (hb hby at_501) (fun _ _ => ⟨rfl, rfl, (by decide : 2 + 0 ≤ _), (by decide : 10 + 0 ≤ _)⟩)
         dsimp only [Pt.U, Pt.locs, Pt.cells, Pt.slots] at X271 l271 y271 z271 ls271 hQ271
         subst l271 y271 z271
         obtain ⟨rfl, Nq271, Kq271, Aq271⟩ := hQ271
         have N271 := Fr.app N265 Nq271
         have f272 := f266.keep Kq271 (ninS ne_ae_ex nin0)
         have z274 := Nat.le_trans z268 Kq271.1
         have st275 := fun t kt => st270 t (ls271 t kt)
         have st276 : own_K p e below T271 m 541 #[iv xa, iv xb, .val (.long xp), .second, iv xw, iv xc, iv xf, iv 2, iv (Int32.ofNat ev), iv md, iv sg, iv dg, iv v1, iv v2, iv c1, iv c2, iv c3, iv uw, rv ae, rv ex, iv (Int32.ofNat (2 * 3)), .unset, .unset] [] B0 := fun t kt => st275 t (by
          refine XS.goto X271.here hx rfl (pc0 := 504) (pc' := 537) rfl (hb hby at_504) (by decide) (by decide) ?_
          refine XS.bipush X271.here hx rfl (hb hby at_537) ?_
          show own_At p e below T271 m 539 #[iv xa, iv xb, .val (.long xp), .second, iv xw, iv xc, iv xf, iv 2, iv (Int32.ofNat ev), iv md, iv sg, iv dg, iv v1, iv v2, iv c1, iv c2, iv c3, iv uw, rv ae, rv ex, iv (Int32.ofNat (2 * 2)), .unset, .unset] [.int 6] _
          rw [show (6 : Int32) = (Int32.ofNat (2 * 3)) from (by decide)]
          refine XS.istore X271.here hx rfl (hb hby at_539) rfl (l' := #[iv xa, iv xb, .val (.long xp), .second, iv xw, iv xc, iv xf, iv 2, iv (Int32.ofNat ev), iv md, iv sg, iv dg, iv v1, iv v2, iv c1, iv c2, iv c3, iv uw, rv ae, rv ex, iv (Int32.ofNat (2 * 3)), .unset, .unset]) rfl ?_
          exact kt)
         exact ⟨3, (fun q => if q = 4 + 1 then .int c2 else if q = 4 then .int v2 else (fun q => if q = 2 + 1 then .int c3 else if q = 2 then .int uw else (fun q => if q = 0 + 1 then .int c1 else if q = 0 then .int v1 else (fun q => if q = 2 + 1 then .int c2 else if q = 2 then .int v2 else (fun q => if q = 0 + 1 then .int c1 else if q = 0 then .int v1 else (fun _ => (.int 0)) q) q) q) q) q), _, _, X271.more (by decide) (by decide), N271, z274, f272, Aq271, (own_b2m p1 zc1 p2 zc2 hl hj23 zc3 qd q1 q2 q3 q4 rfl rfl rfl rfl rfl rfl), st276⟩
        ·have st277 : own_K p e below T209 m 514 #[iv xa, iv xb, .val (.long xp), .second, iv xw, iv xc, iv xf, iv 2, iv (Int32.ofNat ev), iv md, iv sg, iv dg, iv v1, iv v2, iv c1, iv c2, iv c3, iv uw, rv ae, rv ex, iv (Int32.ofNat (2 * 2)), .unset, .unset] [.int c1, .int v1, .int 0, .ref ex] B0 := fun t kt => st257 t (by
          refine XS.icmpYes X209.here hx rfl (pc0 := 471) (pc' := 507) rfl (hb hby at_471) rfl (flt q4).2.1 (by decide) (by decide) ?_
          refine XS.aload X209.here hx rfl (hb hby at_507) rfl rfl ?_
          refine XS.iconst X209.here hx rfl (hb hby at_509) ?_
          refine XS.iload X209.here hx rfl (hb hby at_510) rfl ?_
          refine XS.iload X209.here hx rfl (hb hby at_512) rfl ?_
          exact kt)
         obtain ⟨_, _, ⟨T278, L278, k278, n278⟩, -, X278, ⟨Lc278, hQ278, l278, y278, z278⟩, ls278⟩ := Jvm.LawKit.callS X209 hx (y := (⟨"com/example/saturation/saturation/OpenNodeEdgesPinLaw", "put", "([IIII)V"⟩ : MethodName)) hown (mvT hZ (own_w hw 7 rfl)) (mvT hZ (own_w hw 8 rfl)) (mvT hZ (own_w hw 3 rfl)) (mvT hZ (own_w hw 9 rfl)) (by decide) (backOf (W := 0) (rm_put l Z a0 hw [] ex v1 c1 0 ((fun q => if q = 2 + 1 then .int c2 else if q = 2 then .int v2 else (fun q => if q = 0 + 1 then .int c1 else if q = 0 then .int v1 else (fun _ => (.int 0)) q) q)) T209.heap n0 z212 g_ex Aq209 (by decide)) hZ (own_w hw 9 rfl) (own_w hw 3 rfl) (by decide) (by decide)) (g := (mkF m 514 #[iv xa, iv xb, .val (.long xp), .second, iv xw, iv xc, iv xf, iv 2, iv (Int32.ofNat ev), iv md, iv sg, iv dg, iv v1, iv v2, iv c1, iv c2, iv c3, iv uw, rv ae, rv ex, iv (Int32.ofNat (2 * 2)), .unset, .unset] [.int c1, .int v1, .int 0, .ref ex])) rfl (by rw [hml]; rfl) (argsL := [.ref ex, .int 0, .int v1, .int c1]) (rest := []) (lenOf own_pd7 rfl) rfl (by show 2 * 0 + _ ≤ _; exact Nat.le_of_eq rfl) (hb hby at_514) (fun _ _ => ⟨rfl, rfl, (by decide : 2 + 0 ≤ _), (by decide : 10 + 0 ≤ _)⟩)
         dsimp only [Pt.U, Pt.locs, Pt.cells, Pt.slots] at X278 l278 y278 z278 ls278 hQ278
         subst l278 y278 z278
         obtain ⟨rfl, Nq278, Kq278, Aq278⟩ := hQ278
         have N278 := Fr.app N209 Nq278
         have f279 := f210.keep Kq278 (ninS ne_ae_ex nin0)
         have z281 := Nat.le_trans z212 Kq278.1
         have st282 := fun t kt => st277 t (ls278 t kt)
         have st283 : own_K p e below T278 m 524 #[iv xa, iv xb, .val (.long xp), .second, iv xw, iv xc, iv xf, iv 2, iv (Int32.ofNat ev), iv md, iv sg, iv dg, iv v1, iv v2, iv c1, iv c2, iv c3, iv uw, rv ae, rv ex, iv (Int32.ofNat (2 * 2)), .unset, .unset] [.int c2, .int v2, .int 2, .ref ex] B0 := fun t kt => st282 t (by
          refine XS.aload X278.here hx rfl (hb hby at_517) rfl rfl ?_
          refine XS.iconst X278.here hx rfl (hb hby at_519) ?_
          refine XS.iload X278.here hx rfl (hb hby at_520) rfl ?_
          refine XS.iload X278.here hx rfl (hb hby at_522) rfl ?_
          exact kt)
         obtain ⟨_, _, ⟨T284, L284, k284, n284⟩, -, X284, ⟨Lc284, hQ284, l284, y284, z284⟩, ls284⟩ := Jvm.LawKit.callS X278 hx (y := (⟨"com/example/saturation/saturation/OpenNodeEdgesPinLaw", "put", "([IIII)V"⟩ : MethodName)) hown (mvT hZ (own_w hw 7 rfl)) (mvT hZ (own_w hw 8 rfl)) (mvT hZ (own_w hw 3 rfl)) (mvT hZ (own_w hw 9 rfl)) (by decide) (backOf (W := 0) (rm_put l Z a0 hw [] ex v2 c2 2 ((fun q => if q = 0 + 1 then .int c1 else if q = 0 then .int v1 else (fun q => if q = 2 + 1 then .int c2 else if q = 2 then .int v2 else (fun q => if q = 0 + 1 then .int c1 else if q = 0 then .int v1 else (fun _ => (.int 0)) q) q) q)) T278.heap n0 z281 g_ex Aq278 (by decide)) hZ (own_w hw 9 rfl) (own_w hw 3 rfl) (by decide) (by decide)) (g := (mkF m 524 #[iv xa, iv xb, .val (.long xp), .second, iv xw, iv xc, iv xf, iv 2, iv (Int32.ofNat ev), iv md, iv sg, iv dg, iv v1, iv v2, iv c1, iv c2, iv c3, iv uw, rv ae, rv ex, iv (Int32.ofNat (2 * 2)), .unset, .unset] [.int c2, .int v2, .int 2, .ref ex])) rfl (by rw [hml]; rfl) (argsL := [.ref ex, .int 2, .int v2, .int c2]) (rest := []) (lenOf own_pd7 rfl) rfl (by show 2 * 0 + _ ≤ _; exact Nat.le_of_eq rfl) (hb hby at_524) (fun _ _ => ⟨rfl, rfl, (by decide : 2 + 0 ≤ _), (by decide : 10 + 0 ≤ _)⟩)
         dsimp only [Pt.U, Pt.locs, Pt.cells, Pt.slots] at X284 l284 y284 z284 ls284 hQ284
         subst l284 y284 z284
         obtain ⟨rfl, Nq284, Kq284, Aq284⟩ := hQ284
         have N284 := Fr.app N278 Nq284
         have f285 := f279.keep Kq284 (ninS ne_ae_ex nin0)
         have z287 := Nat.le_trans z281 Kq284.1
         have st288 := fun t kt => st283 t (ls284 t kt)
         have st289 : own_K p e below T284 m 534 #[iv xa, iv xb, .val (.long xp), .second, iv xw, iv xc, iv xf, iv 2, iv (Int32.ofNat ev), iv md, iv sg, iv dg, iv v1, iv v2, iv c1, iv c2, iv c3, iv uw, rv ae, rv ex, iv (Int32.ofNat (2 * 2)), .unset, .unset] [.int c3, .int uw, .int 4, .ref ex] B0 := fun t kt => st288 t (by
          refine XS.aload X284.here hx rfl (hb hby at_527) rfl rfl ?_
          refine XS.iconst X284.here hx rfl (hb hby at_529) ?_
          refine XS.iload X284.here hx rfl (hb hby at_530) rfl ?_
          refine XS.iload X284.here hx rfl (hb hby at_532) rfl ?_
          exact kt)
         obtain ⟨_, _, ⟨T290, L290, k290, n290⟩, -, X290, ⟨Lc290, hQ290, l290, y290, z290⟩, ls290⟩ := Jvm.LawKit.callS X284 hx (y := (⟨"com/example/saturation/saturation/OpenNodeEdgesPinLaw", "put", "([IIII)V"⟩ : MethodName)) hown (mvT hZ (own_w hw 7 rfl)) (mvT hZ (own_w hw 8 rfl)) (mvT hZ (own_w hw 3 rfl)) (mvT hZ (own_w hw 9 rfl)) (by decide) (backOf (W := 0) (rm_put l Z a0 hw [] ex uw c3 4 ((fun q => if q = 2 + 1 then .int c2 else if q = 2 then .int v2 else (fun q => if q = 0 + 1 then .int c1 else if q = 0 then .int v1 else (fun q => if q = 2 + 1 then .int c2 else if q = 2 then .int v2 else (fun q => if q = 0 + 1 then .int c1 else if q = 0 then .int v1 else (fun _ => (.int 0)) q) q) q) q)) T284.heap n0 z287 g_ex Aq284 (by decide)) hZ (own_w hw 9 rfl) (own_w hw 3 rfl) (by decide) (by decide)) (g := (mkF m 534 #[iv xa, iv xb, .val (.long xp), .second, iv xw, iv xc, iv xf, iv 2, iv (Int32.ofNat ev), iv md, iv sg, iv dg, iv v1, iv v2, iv c1, iv c2, iv c3, iv uw, rv ae, rv ex, iv (Int32.ofNat (2 * 2)), .unset, .unset] [.int c3, .int uw, .int 4, .ref ex])) rfl (by rw [hml]; rfl) (argsL := [.ref ex, .int 4, .int uw, .int c3]) (rest := []) (lenOf own_pd7 rfl) rfl (by show 2 * 0 + _ ≤ _; exact Nat.le_of_eq rfl) (hb hby at_534) (fun _ _ => ⟨rfl, rfl, (by decide : 2 + 0 ≤ _), (by decide : 10 + 0 ≤ _)⟩)
         dsimp only [Pt.U, Pt.locs, Pt.cells, Pt.slots] at X290 l290 y290 z290 ls290 hQ290
         subst l290 y290 z290
         obtain ⟨rfl, Nq290, Kq290, Aq290⟩ := hQ290
         have N290 := Fr.app N284 Nq290
         have f291 := f285.keep Kq290 (ninS ne_ae_ex nin0)
         have z293 := Nat.le_trans z287 Kq290.1
         have st294 := fun t kt => st289 t (ls290 t kt)
         have st295 : own_K p e below T290 m 541 #[iv xa, iv xb, .val (.long xp), .second, iv xw, iv xc, iv xf, iv 2, iv (Int32.ofNat ev), iv md, iv sg, iv dg, iv v1, iv v2, iv c1, iv c2, iv c3, iv uw, rv ae, rv ex, iv (Int32.ofNat (2 * 3)), .unset, .unset] [] B0 := fun t kt => st294 t (by
          refine XS.bipush X290.here hx rfl (hb hby at_537) ?_
          show own_At p e below T290 m 539 #[iv xa, iv xb, .val (.long xp), .second, iv xw, iv xc, iv xf, iv 2, iv (Int32.ofNat ev), iv md, iv sg, iv dg, iv v1, iv v2, iv c1, iv c2, iv c3, iv uw, rv ae, rv ex, iv (Int32.ofNat (2 * 2)), .unset, .unset] [.int 6] _
          rw [show (6 : Int32) = (Int32.ofNat (2 * 3)) from (by decide)]
          refine XS.istore X290.here hx rfl (hb hby at_539) rfl (l' := #[iv xa, iv xb, .val (.long xp), .second, iv xw, iv xc, iv xf, iv 2, iv (Int32.ofNat ev), iv md, iv sg, iv dg, iv v1, iv v2, iv c1, iv c2, iv c3, iv uw, rv ae, rv ex, iv (Int32.ofNat (2 * 3)), .unset, .unset]) rfl ?_
          exact kt)
         exact ⟨3, (fun q => if q = 4 + 1 then .int c3 else if q = 4 then .int uw else (fun q => if q = 2 + 1 then .int c2 else if q = 2 then .int v2 else (fun q => if q = 0 + 1 then .int c1 else if q = 0 then .int v1 else (fun q => if q = 2 + 1 then .int c2 else if q = 2 then .int v2 else (fun q => if q = 0 + 1 then .int c1 else if q = 0 then .int v1 else (fun _ => (.int 0)) q) q) q) q) q), _, _, X290.more (by decide) (by decide), N290, z293, f291, Aq290, (own_b2g p1 zc1 p2 zc2 hl hj23 zc3 qd q1 q2 q3 q4 rfl rfl rfl rfl rfl rfl), st295⟩
   have lx := Aex.lt
   obtain ⟨T296, h296, X296, e296, E296, A296, D296, -, ls296⟩ := newO X215 hx hZ hown (own_w hw 10 rfl) (own_w hw 11 rfl) (own_w hw 12 rfl) rfl (g := (mkF m 541 #[iv xa, iv xb, .val (.long xp), .second, iv xw, iv xc, iv xf, iv 2, iv (Int32.ofNat ev), iv md, iv sg, iv dg, iv v1, iv v2, iv c1, iv c2, iv c3, iv uw, rv ae, rv ex, iv (Int32.ofNat (2 * cn)), .unset, .unset] [])) rfl (hb hby at_541) (by decide) (by decide)
   obtain ⟨ao, g296⟩ : ∃ z, z = T215.heap.size := ⟨_, rfl⟩
   rw [← g296] at A296 D296 ls296
   have ne_ae_ao : ae ≠ ao := Nat.ne_of_lt (Nat.lt_of_lt_of_le Aae.lt (Nat.le_of_eq g296.symm))
   have g_ao : n0 ≤ ao := Nat.le_trans Z215 (Nat.le_of_eq g296.symm)
   have f297 := Aae.ext E296
   have f298 := Aex.ext E296
   have z299 := Nat.le_trans Z215 E296.1
   have f300 : Fld Z h296 ao "com/example/saturation/saturation/OpenNode" "lastKey" "I" (.int 0) := D296 (Or.inl (own_w hw 20 rfl)) (ty := .int) (by decide)
   have f301 : Fld Z h296 ao "com/example/saturation/saturation/OpenNode" "keys" "[I" .null := D296 (Or.inl (own_w hw 22 rfl)) (ty := (.array .int)) (by decide)
   have f302 : Fld Z h296 ao "com/example/saturation/saturation/OpenNode" "slots" "[I" .null := D296 (Or.inl (own_w hw 24 rfl)) (ty := (.array .int)) (by decide)
   have f303 : Fld Z h296 ao "com/example/saturation/saturation/OpenNode" "children" "[I" .null := D296 (Or.inl (own_w hw 26 rfl)) (ty := (.array .int)) (by decide)
   have f304 : Fld Z h296 ao "com/example/saturation/saturation/OpenNode" "count" "I" (.int 0) := D296 (Or.inl (own_w hw 29 rfl)) (ty := .int) (by decide)
   have f305 : Fld Z h296 ao "com/example/saturation/saturation/OpenNode" "pending" "[[J" .null := D296 (Or.inr (own_w hw 33 rfl)) (ty := (.array (.array .long))) (by decide)
   have f306 : Fld Z h296 ao "com/example/saturation/saturation/OpenNode" "pendingCount" "[I" .null := D296 (Or.inr (own_w hw 35 rfl)) (ty := (.array .int)) (by decide)
   have f307 : Fld Z h296 ao "com/example/saturation/saturation/OpenNode" "blocks" "I" (.int 0) := D296 (Or.inl (own_w hw 46 rfl)) (ty := .int) (by decide)
   have f308 : Fld Z h296 ao "com/example/saturation/saturation/OpenNode" "lastPosition" "I" (.int 0) := D296 (Or.inl (own_w hw 66 rfl)) (ty := .int) (by decide)
   have st309 := fun t kt => st215 t (ls296 t kt)
   have ltx : ex < ao := Nat.lt_of_lt_of_le lx (Nat.le_of_eq g296.symm)
   have st310 : own_K p e below T296 m 549 #[iv xa, iv xb, .val (.long xp), .second, iv xw, iv xc, iv xf, iv 2, iv (Int32.ofNat ev), iv md, iv sg, iv dg, iv v1, iv v2, iv c1, iv c2, iv c3, iv uw, rv ae, rv ex, iv (Int32.ofNat (2 * cn)), .unset, .unset] [.int (Int32.ofNat ev), .ref ae, .ref ao, .ref ao] B0 := fun t kt => st309 t (by
    refine XS.dup X296.here hx rfl (hb hby at_544) rfl rfl ?_
    refine XS.aload X296.here hx rfl (hb hby at_545) rfl rfl ?_
    refine XS.iload X296.here hx rfl (hb hby at_547) rfl ?_
    exact kt)
   by_cases hkk : own_key v2 = own_key v1
   ·obtain ⟨_, _, ⟨T311, L311, k311, n311⟩, -, X311, ⟨Lc311, hQ311, l311, y311, z311⟩, ls311⟩ := X296.specialBack hx (y := (⟨"com/example/saturation/saturation/OpenNode", "<init>", "([II)V"⟩ : MethodName)) rfl hown (mvT hZ (own_w hw 13 rfl)) (mvT hZ (own_w hw 14 rfl)) (mvT hZ (own_w hw 15 rfl)) (by decide) (backOf (W := 1) (rm_in2s l Z a0 hw [] ao ae ev ((fun q => if q = 3 then .int c2 else if q = 2 then .int v2 else if q = 1 then .int c1 else if q = 0 then .int v1 else .int 0)) v1 c1 v2 c2 h296 ao (Nat.le_of_lt A296.lt) f300 f301 f302 f303 f304 f305 f306 f307 f308 A296 (Nat.le_refl ao) f297 ((Ne.symm ne_ae_ao)) hev rfl rfl rfl rfl hkk) hZ (own_w hw 15 rfl) (own_w hw 12 rfl) (by decide) (by decide)) (g := (mkF m 549 #[iv xa, iv xb, .val (.long xp), .second, iv xw, iv xc, iv xf, iv 2, iv (Int32.ofNat ev), iv md, iv sg, iv dg, iv v1, iv v2, iv c1, iv c2, iv c3, iv uw, rv ae, rv ex, iv (Int32.ofNat (2 * cn)), .unset, .unset] [.int (Int32.ofNat ev), .ref ae, .ref ao, .ref ao])) rfl (by rw [hml]; rfl) (Steps.refl _) (a := ao) (argsL := [.ref ae, .int (Int32.ofNat ev)]) (rest := [.ref ao]) (lenOf own_pd8 rfl) rfl (by show 2 * 0 + _ ≤ _; exact Nat.le_of_eq rfl) (hb hby at_549) (fun _ _ => ⟨rfl, e296, (by decide : 3 + 9 ≤ _), (by decide : 19 + 85 ≤ _)⟩)
    dsimp only [Pt.U, Pt.locs, Pt.cells, Pt.slots] at X311 l311 y311 z311 ls311 hQ311
    subst l311 y311 z311
    obtain ⟨rfl, Nq311, Zq311, Sm311, Nn311⟩ := hQ311
    have Nm311 : Fr n0 Lc311 := fun y hy => Nat.le_trans g_ao (Nq311 y hy)
    have N311 := Fr.app N215 Nm311
    have Zm311 := Nat.le_trans g_ao Zq311
    have st312 : own_K p e below T311 m 552 #[iv xa, iv xb, .val (.long xp), .second, iv xw, iv xc, iv xf, iv 2, iv (Int32.ofNat ev), iv md, iv sg, iv dg, iv v1, iv v2, iv c1, iv c2, iv c3, iv uw, rv ae, rv ex, iv (Int32.ofNat (2 * cn)), .unset, .unset] [.ref ao] B0 := fun t kt => st310 t (ls311.trans kt)
    have Eq311 := Nn311.1
    have Ax2 := f298.sm Sm311 (Nat.not_le.mpr ltx)
    exact ⟨ao, ex, ae, 1, 1, _, _, _, _, _, cn, fx, _, _, X311.more (by decide) (by decide), N311, Zm311, Nn311, Ax2, ⟨⟨_, own_St2s p1 p2 hkk⟩, ltx, g_ao, by decide, by decide, by decide, by decide, fun x h1 h2 => absurd h2 (by omega), hF⟩, st312⟩
   ·obtain ⟨_, _, ⟨T313, L313, k313, n313⟩, -, X313, ⟨Lc313, hQ313, l313, y313, z313⟩, ls313⟩ := X296.specialBack hx (y := (⟨"com/example/saturation/saturation/OpenNode", "<init>", "([II)V"⟩ : MethodName)) rfl hown (mvT hZ (own_w hw 13 rfl)) (mvT hZ (own_w hw 14 rfl)) (mvT hZ (own_w hw 15 rfl)) (by decide) (backOf (W := 1) (rm_in2d l Z a0 hw [] ao ae ev ((fun q => if q = 3 then .int c2 else if q = 2 then .int v2 else if q = 1 then .int c1 else if q = 0 then .int v1 else .int 0)) v1 c1 v2 c2 h296 ao (Nat.le_of_lt A296.lt) f300 f301 f302 f303 f304 f305 f306 f307 f308 A296 (Nat.le_refl ao) f297 ((Ne.symm ne_ae_ao)) hev rfl rfl rfl rfl hkk) hZ (own_w hw 15 rfl) (own_w hw 12 rfl) (by decide) (by decide)) (g := (mkF m 549 #[iv xa, iv xb, .val (.long xp), .second, iv xw, iv xc, iv xf, iv 2, iv (Int32.ofNat ev), iv md, iv sg, iv dg, iv v1, iv v2, iv c1, iv c2, iv c3, iv uw, rv ae, rv ex, iv (Int32.ofNat (2 * cn)), .unset, .unset] [.int (Int32.ofNat ev), .ref ae, .ref ao, .ref ao])) rfl (by rw [hml]; rfl) (Steps.refl _) (a := ao) (argsL := [.ref ae, .int (Int32.ofNat ev)]) (rest := [.ref ao]) (lenOf own_pd8 rfl) rfl (by show 2 * 0 + _ ≤ _; exact Nat.le_of_eq rfl) (hb hby at_549) (fun _ _ => ⟨rfl, e296, (by decide : 3 + 9 ≤ _), (by decide : 19 + 152 ≤ _)⟩)
    dsimp only [Pt.U, Pt.locs, Pt.cells, Pt.slots] at X313 l313 y313 z313 ls313 hQ313
    subst l313 y313 z313
    obtain ⟨rfl, Nq313, Zq313, Sm313, Nn313⟩ := hQ313
    have Nm313 : Fr n0 Lc313 := fun y hy => Nat.le_trans g_ao (Nq313 y hy)
    have N313 := Fr.app N215 Nm313
    have Zm313 := Nat.le_trans g_ao Zq313
    have st314 : own_K p e below T313 m 552 #[iv xa, iv xb, .val (.long xp), .second, iv xw, iv xc, iv xf, iv 2, iv (Int32.ofNat ev), iv md, iv sg, iv dg, iv v1, iv v2, iv c1, iv c2, iv c3, iv uw, rv ae, rv ex, iv (Int32.ofNat (2 * cn)), .unset, .unset] [.ref ao] B0 := fun t kt => st310 t (ls313.trans kt)
    have Eq313 := Nn313.1
    have Ax2 := f298.sm Sm313 (Nat.not_le.mpr ltx)
    exact ⟨ao, ex, ae, 2, 2, _, _, _, _, _, cn, fx, _, _, X313.more (by decide) (by decide), N313, Zm313, Nn313, Ax2, ⟨⟨_, own_St2d p1 p2 hl hkk⟩, ltx, g_ao, by decide, by decide, by decide, by decide, fun x h1 h2 => absurd h2 (by omega), hF⟩, st314⟩
 obtain ⟨⟨k, St⟩, ltx, g_ao, hnb, hnc, hc1, hc2, hz, hF⟩ := hP
 have Eao := Nn.1
 have st315 : own_K p e below T32 m 556 #[iv xa, iv xb, .val (.long xp), .second, iv xw, iv xc, iv xf, iv nI, iv (Int32.ofNat ev), iv md, iv sg, iv dg, iv v1, iv v2, iv c1, iv c2, iv c3, iv uw, rv ae, rv ex, iv (Int32.ofNat (2 * cn)), rv ao, .unset] [.int dg] B0 := fun t kt => st32 t (by
  refine XS.astore X32.here hx rfl (hb hby at_552) rfl rfl (l' := #[iv xa, iv xb, .val (.long xp), .second, iv xw, iv xc, iv xf, iv nI, iv (Int32.ofNat ev), iv md, iv sg, iv dg, iv v1, iv v2, iv c1, iv c2, iv c3, iv uw, rv ae, rv ex, iv (Int32.ofNat (2 * cn)), rv ao, .unset]) rfl ?_
  refine XS.iload X32.here hx rfl (hb hby at_554) rfl ?_
  exact kt)
 by_cases qd : dg = (0 : Int32)
 ·have hG := hF.2.1 qd
  have N2 := hG.1 ▸ Nn
  obtain ⟨B, hB⟩ : ∃ z : Nat, z = 2147483648 := ⟨_, rfl⟩
  have hot := St.ot B (Nat.le_of_eq hB.symm)
  have hE := hG.2 B (Nat.le_of_eq hB.symm)
  rw [← hot] at hE
  have st316 : own_K p e below T32 m 570 #[iv xa, iv xb, .val (.long xp), .second, iv xw, iv xc, iv xf, iv nI, iv (Int32.ofNat ev), iv md, iv sg, iv dg, iv v1, iv v2, iv c1, iv c2, iv c3, iv uw, rv ae, rv ex, iv (Int32.ofNat (2 * cn)), rv ao, .unset] [.ref ao] B0 := fun t kt => st315 t (by
   refine XS.ifYes X32.here hx rfl (pc0 := 556) (pc' := 568) rfl (hb hby at_556) rfl ((if0 _ _).trans (teq qd).1) (by decide) (by decide) ?_
   refine XS.aload X32.here hx rfl (hb hby at_568) rfl rfl ?_
   exact kt)
  obtain ⟨cq317, kq317, q317a, q317b, q317c⟩ := isOf hZ rfl (N2.1)
  obtain ⟨_, _, ⟨T317, L317, k317, n317⟩, -, X317, ⟨Lc317, hQ317, l317, y317, z317⟩, ls317⟩ := X32.virtualBack hx (y := (⟨"com/example/saturation/saturation/OpenNode", "edges", "()[I"⟩ : MethodName)) (z := (⟨"com/example/saturation/saturation/OpenNode", "edges", "()[I"⟩ : MethodName)) hown (mvT hZ (own_w hw 67 rfl)) (mvT hZ (own_w hw 68 rfl)) (notFace_of_selects (args := #[]) (mvT hZ (own_w hw 70 rfl))) (mvT hZ (own_w hw 70 rfl)) (mvT hZ (own_w hw 69 rfl)) (by decide) (backOf (W := 0) (rm_edges l Z a0 hw [] ao nb cap K S Ch cn _ ev T32.heap ao (Nat.le_of_lt N2.1.lt) N2 ((by omega)) hnc ((by omega)) ((fun q hq => Nat.lt_of_lt_of_le (St.hS q hq) hnc)) hE.1 hF.1) hZ (own_w hw 71 rfl) (own_w hw 12 rfl) (by decide) (by decide)) q317a q317c (g := (mkF m 570 #[iv xa, iv xb, .val (.long xp), .second, iv xw, iv xc, iv xf, iv nI, iv (Int32.ofNat ev), iv md, iv sg, iv dg, iv v1, iv v2, iv c1, iv c2, iv c3, iv uw, rv ae, rv ex, iv (Int32.ofNat (2 * cn)), rv ao, .unset] [.ref ao])) rfl (by rw [hml]; rfl) (Steps.refl _) (argsL := []) (rest := []) (lenOf own_pd9 rfl) rfl (by show 2 * 0 + _ ≤ _; exact Nat.le_of_eq rfl) (hb hby at_570) (fun _ _ => ⟨rfl, rfl, (by decide : 12 + 1 ≤ _), (by decide : 178 + 6 ≤ _)⟩)
  dsimp only [Pt.U, Pt.locs, Pt.cells, Pt.slots] at X317 l317 y317 z317 ls317 hQ317
  subst l317 y317 z317
  obtain ⟨rq317, rfl, Nq317, Zq317, Sm317, Aq317⟩ := hQ317
  have Nm317 : Fr n0 Lc317 := fun y hy => Nat.le_trans g_ao (Nq317 y hy)
  have N317 := Fr.app N32 Nm317
  have Zm317 := Nat.le_trans g_ao Zq317
  have st318 : own_K p e below T317 m 573 #[iv xa, iv xb, .val (.long xp), .second, iv xw, iv xc, iv xf, iv nI, iv (Int32.ofNat ev), iv md, iv sg, iv dg, iv v1, iv v2, iv c1, iv c2, iv c3, iv uw, rv ae, rv ex, iv (Int32.ofNat (2 * cn)), rv ao, .unset] [.ref rq317] B0 := fun t kt => st316 t (ls317.trans kt)
  have Ax9 := Aex.sm Sm317 (Nat.not_le.mpr ltx)
  have st319 : own_K p e below T317 m 581 #[iv xa, iv xb, .val (.long xp), .second, iv xw, iv xc, iv xf, iv nI, iv (Int32.ofNat ev), iv md, iv sg, iv dg, iv v1, iv v2, iv c1, iv c2, iv c3, iv uw, rv ae, rv ex, iv (Int32.ofNat (2 * cn)), rv ao, rv rq317] [(.int (Int32.ofNat (2 * cn))), .ref ex, .ref rq317] B0 := fun t kt => st318 t (by
   refine XS.astore X317.here hx rfl (hb hby at_573) rfl rfl (l' := #[iv xa, iv xb, .val (.long xp), .second, iv xw, iv xc, iv xf, iv nI, iv (Int32.ofNat ev), iv md, iv sg, iv dg, iv v1, iv v2, iv c1, iv c2, iv c3, iv uw, rv ae, rv ex, iv (Int32.ofNat (2 * cn)), rv ao, rv rq317]) rfl ?_
   refine XS.aload X317.here hx rfl (hb hby at_575) rfl rfl ?_
   refine XS.aload X317.here hx rfl (hb hby at_577) rfl rfl ?_
   refine XS.iload X317.here hx rfl (hb hby at_579) rfl ?_
   exact kt)
  obtain ⟨_, _, ⟨T320, L320, k320, n320⟩, -, X320, ⟨Lc320, hQ320, l320, y320, z320⟩, ls320⟩ := Jvm.LawKit.callS X317 hx (y := (⟨"com/example/saturation/saturation/OpenNodeEdgesPinLaw", "same", "([I[II)Z"⟩ : MethodName)) hown (mvT hZ (own_w hw 72 rfl)) (mvT hZ (own_w hw 73 rfl)) (mvT hZ (own_w hw 3 rfl)) (mvT hZ (own_w hw 74 rfl)) (by decide) (backOf (W := 0) (rm_same l Z a0 hw [] rq317 ex cn _ _ _ T317.heap n0 Zm317 Aq317 Ax9 hF.1 (fun q _ => rfl) hE.2) hZ (own_w hw 74 rfl) (own_w hw 3 rfl) (by decide) (by decide)) (g := (mkF m 581 #[iv xa, iv xb, .val (.long xp), .second, iv xw, iv xc, iv xf, iv nI, iv (Int32.ofNat ev), iv md, iv sg, iv dg, iv v1, iv v2, iv c1, iv c2, iv c3, iv uw, rv ae, rv ex, iv (Int32.ofNat (2 * cn)), rv ao, rv rq317] [(.int (Int32.ofNat (2 * cn))), .ref ex, .ref rq317])) rfl (by rw [hml]; rfl) (argsL := [.ref rq317, .ref ex, (.int (Int32.ofNat (2 * cn)))]) (rest := []) (lenOf own_pd10 rfl) rfl (by show 2 * 0 + _ ≤ _; exact Nat.le_of_eq rfl) (hb hby at_581) (fun _ _ => ⟨rfl, rfl, (by decide : 13 + 0 ≤ _), (by decide : 184 + 0 ≤ _)⟩)
  dsimp only [Pt.U, Pt.locs, Pt.cells, Pt.slots] at X320 l320 y320 z320 ls320 hQ320
  subst l320 y320 z320
  obtain ⟨rfl, Nq320, eq320⟩ := hQ320
  have N320 := Fr.app N317 Nq320
  have st321 := fun t kt => st319 t (ls320 t kt)
  obtain ⟨fs, hr, hrun, hended, hW, hsame⟩ := X320.leave (v := (some (.int 1))) (fun h => by rw [Bd.returns] at h; cases h)
  subst hB0
  refine ⟨_, _, st321 _ ?_, hrun, hended, _, _, rfl, ?_, ⟨_, rfl⟩, hW, hsame.mono (by decide) (by decide)⟩
  ·exact retN X320 hx (t := .boolean) Bd.returns (by simp) (hb hby at_584) hr
  ·show Q_rm_law Z xa xb xp xw xc xf h0 n0 _ T320.heap _
   rw [eq320]
   exact ⟨rfl, N320⟩
 ·have st322 : own_K p e below T32 m 565 #[iv xa, iv xb, .val (.long xp), .second, iv xw, iv xc, iv xf, iv nI, iv (Int32.ofNat ev), iv md, iv sg, iv dg, iv v1, iv v2, iv c1, iv c2, iv c3, iv uw, rv ae, rv ex, iv (Int32.ofNat (2 * cn)), rv ao, .unset] [.int c3, .int uw, .ref ao] B0 := fun t kt => st315 t (by
   refine XS.ifNo X32.here hx rfl (hb hby at_556) rfl ((if0 _ _).trans (feq qd).1) ?_
   refine XS.aload X32.here hx rfl (hb hby at_559) rfl rfl ?_
   refine XS.iload X32.here hx rfl (hb hby at_561) rfl ?_
   refine XS.iload X32.here hx rfl (hb hby at_563) rfl ?_
   exact kt)
  obtain ⟨cq323, kq323, q323a, q323b, q323c⟩ := isOf hZ rfl Eao
  obtain ⟨_, _, ⟨T323, L323, k323, n323⟩, -, X323, ⟨Lc323, hQ323, l323, y323, z323⟩, ls323⟩ := X32.virtualBack hx (y := (⟨"com/example/saturation/saturation/OpenNode", "grow", "(II)V"⟩ : MethodName)) (z := (⟨"com/example/saturation/saturation/OpenNode", "grow", "(II)V"⟩ : MethodName)) hown (mvT hZ (own_w hw 36 rfl)) (mvT hZ (own_w hw 37 rfl)) (notFace_of_selects (args := #[]) (mvT hZ (own_w hw 39 rfl))) (mvT hZ (own_w hw 39 rfl)) (mvT hZ (own_w hw 38 rfl)) (by decide) (backOf (W := 0) (rm_grow l Z a0 hw [] ao uw c3 nb cap K S Ch nI ev T32.heap ao (Nat.le_of_lt Eao.lt) Nn hnb hnc St.asc01 hc1 hc2 hev St.hS hz hj23) hZ (own_w hw 40 rfl) (own_w hw 12 rfl) (by decide) (by decide)) q323a q323c (g := (mkF m 565 #[iv xa, iv xb, .val (.long xp), .second, iv xw, iv xc, iv xf, iv nI, iv (Int32.ofNat ev), iv md, iv sg, iv dg, iv v1, iv v2, iv c1, iv c2, iv c3, iv uw, rv ae, rv ex, iv (Int32.ofNat (2 * cn)), rv ao, .unset] [.int c3, .int uw, .ref ao])) rfl (by rw [hml]; rfl) (Steps.refl _) (argsL := [.int uw, .int c3]) (rest := []) (lenOf own_pd11 rfl) rfl (by show 2 * 0 + _ ≤ _; exact Nat.le_of_eq rfl) (hb hby at_565) (fun _ _ => ⟨rfl, rfl, (by decide : 12 + 6 ≤ _), (by decide : 178 + 276 ≤ _)⟩)
  dsimp only [Pt.U, Pt.locs, Pt.cells, Pt.slots] at X323 l323 y323 z323 ls323 hQ323
  subst l323 y323 z323
  obtain ⟨rfl, Nq323, Zq323, Sm323, nb323, cp323, K323, S323, Ch323, ct323, lk323, hca323, hcb323, Nn323, hG323⟩ := hQ323
  have Nm323 : Fr n0 Lc323 := fun y hy => Nat.le_trans g_ao (Nq323 y hy)
  have N323 := Fr.app N32 Nm323
  have Zm323 := Nat.le_trans g_ao Zq323
  have st324 : own_K p e below T323 m 568 #[iv xa, iv xb, .val (.long xp), .second, iv xw, iv xc, iv xf, iv nI, iv (Int32.ofNat ev), iv md, iv sg, iv dg, iv v1, iv v2, iv c1, iv c2, iv c3, iv uw, rv ae, rv ex, iv (Int32.ofNat (2 * cn)), rv ao, .unset] [] B0 := fun t kt => st322 t (ls323.trans kt)
  have Eq323 := Nn323.1
  have Ax8 := Aex.sm Sm323 (Nat.not_le.mpr ltx)
  obtain ⟨⟨k2, St2⟩, hnb2, hct⟩ := St.growU hj23 hca323 hG323
  have hG := hF.2.2 qd
  have hct := hct.trans hG.1.symm
  subst hct
  obtain ⟨B, hB⟩ : ∃ z : Nat, z = 2147483648 := ⟨_, rfl⟩
  have hot := St2.ot B (Nat.le_of_eq hB.symm)
  have hE := hG.2 B (Nat.le_of_eq hB.symm)
  rw [← hot] at hE
  have st325 : own_K p e below T323 m 570 #[iv xa, iv xb, .val (.long xp), .second, iv xw, iv xc, iv xf, iv nI, iv (Int32.ofNat ev), iv md, iv sg, iv dg, iv v1, iv v2, iv c1, iv c2, iv c3, iv uw, rv ae, rv ex, iv (Int32.ofNat (2 * cn)), rv ao, .unset] [.ref ao] B0 := fun t kt => st324 t (by
   refine XS.aload X323.here hx rfl (hb hby at_568) rfl rfl ?_
   exact kt)
  obtain ⟨cq326, kq326, q326a, q326b, q326c⟩ := isOf hZ rfl (Nn323.1)
  obtain ⟨_, _, ⟨T326, L326, k326, n326⟩, -, X326, ⟨Lc326, hQ326, l326, y326, z326⟩, ls326⟩ := X323.virtualBack hx (y := (⟨"com/example/saturation/saturation/OpenNode", "edges", "()[I"⟩ : MethodName)) (z := (⟨"com/example/saturation/saturation/OpenNode", "edges", "()[I"⟩ : MethodName)) hown (mvT hZ (own_w hw 67 rfl)) (mvT hZ (own_w hw 68 rfl)) (notFace_of_selects (args := #[]) (mvT hZ (own_w hw 70 rfl))) (mvT hZ (own_w hw 70 rfl)) (mvT hZ (own_w hw 69 rfl)) (by decide) (backOf (W := 0) (rm_edges l Z a0 hw [] ao nb323 cp323 K323 S323 Ch323 cn lk323 ev T323.heap ao (Nat.le_of_lt Nn323.1.lt) Nn323 ((by omega)) hca323 hcb323 ((fun q hq => Nat.lt_of_lt_of_le (St2.hS q hq) hca323)) hE.1 hF.1) hZ (own_w hw 71 rfl) (own_w hw 12 rfl) (by decide) (by decide)) q326a q326c (g := (mkF m 570 #[iv xa, iv xb, .val (.long xp), .second, iv xw, iv xc, iv xf, iv nI, iv (Int32.ofNat ev), iv md, iv sg, iv dg, iv v1, iv v2, iv c1, iv c2, iv c3, iv uw, rv ae, rv ex, iv (Int32.ofNat (2 * cn)), rv ao, .unset] [.ref ao])) rfl (by rw [hml]; rfl) (Steps.refl _) (argsL := []) (rest := []) (lenOf own_pd9 rfl) rfl (by show 2 * 0 + _ ≤ _; exact Nat.le_of_eq rfl) (hb hby at_570) (fun _ _ => ⟨rfl, rfl, (by decide : 18 + 1 ≤ _), (by decide : 454 + 6 ≤ _)⟩)
  dsimp only [Pt.U, Pt.locs, Pt.cells, Pt.slots] at X326 l326 y326 z326 ls326 hQ326
  subst l326 y326 z326
  obtain ⟨rq326, rfl, Nq326, Zq326, Sm326, Aq326⟩ := hQ326
  have Nm326 : Fr n0 Lc326 := fun y hy => Nat.le_trans g_ao (Nq326 y hy)
  have N326 := Fr.app N323 Nm326
  have Zm326 := Nat.le_trans g_ao Zq326
  have st327 : own_K p e below T326 m 573 #[iv xa, iv xb, .val (.long xp), .second, iv xw, iv xc, iv xf, iv nI, iv (Int32.ofNat ev), iv md, iv sg, iv dg, iv v1, iv v2, iv c1, iv c2, iv c3, iv uw, rv ae, rv ex, iv (Int32.ofNat (2 * cn)), rv ao, .unset] [.ref rq326] B0 := fun t kt => st325 t (ls326.trans kt)
  have Ax9 := Ax8.sm Sm326 (Nat.not_le.mpr ltx)
  have st328 : own_K p e below T326 m 581 #[iv xa, iv xb, .val (.long xp), .second, iv xw, iv xc, iv xf, iv nI, iv (Int32.ofNat ev), iv md, iv sg, iv dg, iv v1, iv v2, iv c1, iv c2, iv c3, iv uw, rv ae, rv ex, iv (Int32.ofNat (2 * cn)), rv ao, rv rq326] [(.int (Int32.ofNat (2 * cn))), .ref ex, .ref rq326] B0 := fun t kt => st327 t (by
   refine XS.astore X326.here hx rfl (hb hby at_573) rfl rfl (l' := #[iv xa, iv xb, .val (.long xp), .second, iv xw, iv xc, iv xf, iv nI, iv (Int32.ofNat ev), iv md, iv sg, iv dg, iv v1, iv v2, iv c1, iv c2, iv c3, iv uw, rv ae, rv ex, iv (Int32.ofNat (2 * cn)), rv ao, rv rq326]) rfl ?_
   refine XS.aload X326.here hx rfl (hb hby at_575) rfl rfl ?_
   refine XS.aload X326.here hx rfl (hb hby at_577) rfl rfl ?_
   refine XS.iload X326.here hx rfl (hb hby at_579) rfl ?_
   exact kt)
  obtain ⟨_, _, ⟨T329, L329, k329, n329⟩, -, X329, ⟨Lc329, hQ329, l329, y329, z329⟩, ls329⟩ := Jvm.LawKit.callS X326 hx (y := (⟨"com/example/saturation/saturation/OpenNodeEdgesPinLaw", "same", "([I[II)Z"⟩ : MethodName)) hown (mvT hZ (own_w hw 72 rfl)) (mvT hZ (own_w hw 73 rfl)) (mvT hZ (own_w hw 3 rfl)) (mvT hZ (own_w hw 74 rfl)) (by decide) (backOf (W := 0) (rm_same l Z a0 hw [] rq326 ex cn _ _ _ T326.heap n0 Zm326 Aq326 Ax9 hF.1 (fun q _ => rfl) hE.2) hZ (own_w hw 74 rfl) (own_w hw 3 rfl) (by decide) (by decide)) (g := (mkF m 581 #[iv xa, iv xb, .val (.long xp), .second, iv xw, iv xc, iv xf, iv nI, iv (Int32.ofNat ev), iv md, iv sg, iv dg, iv v1, iv v2, iv c1, iv c2, iv c3, iv uw, rv ae, rv ex, iv (Int32.ofNat (2 * cn)), rv ao, rv rq326] [(.int (Int32.ofNat (2 * cn))), .ref ex, .ref rq326])) rfl (by rw [hml]; rfl) (argsL := [.ref rq326, .ref ex, (.int (Int32.ofNat (2 * cn)))]) (rest := []) (lenOf own_pd10 rfl) rfl (by show 2 * 0 + _ ≤ _; exact Nat.le_of_eq rfl) (hb hby at_581) (fun _ _ => ⟨rfl, rfl, (by decide : 19 + 0 ≤ _), (by decide : 460 + 0 ≤ _)⟩)
  dsimp only [Pt.U, Pt.locs, Pt.cells, Pt.slots] at X329 l329 y329 z329 ls329 hQ329
  subst l329 y329 z329
  obtain ⟨rfl, Nq329, eq329⟩ := hQ329
  have N329 := Fr.app N326 Nq329
  have st330 := fun t kt => st328 t (ls329 t kt)
  obtain ⟨fs, hr, hrun, hended, hW, hsame⟩ := X329.leave (v := (some (.int 1))) (fun h => by rw [Bd.returns] at h; cases h)
  subst hB0
  refine ⟨_, _, st330 _ ?_, hrun, hended, _, _, rfl, ?_, ⟨_, rfl⟩, hW, hsame.mono (by decide) (by decide)⟩
  ·exact retN X329 hx (t := .boolean) Bd.returns (by simp) (hb hby at_584) hr
  ·show Q_rm_law Z xa xb xp xw xc xf h0 n0 _ T329.heap _
   rw [eq329]
   exact ⟨rfl, N329⟩
set_option maxRecDepth 65536 in
set_option maxHeartbeats 40000000 in
theorem comes_1 {Post : Tables → Env → Array Value → State → Outcome → State → Prop} (hpost : ∀ tb e args s v u, (limb_1_1.after args s (.returned v) u = true ∧ limb_1_2.after args s (.returned v) u = true ∧ True) → FrameEnd s (.returned v) u (Jvm.fieldLocs frame_1_writes args s ++ Jvm.arrayLocs frame_1_arrays args s ++ Jvm.staticLocs frame_1_statics s) 48 960 → Post tb e args s (.returned v) u) :
  ArmFor flags0 classFile x code maxLocals ret World_1 tables_1 room_1 Calls_1 rest_1 Pre_1 Post := by
 intro l hfl _ _ p e ha hc hk s m args below hf hA hF happ hP
 obtain ⟨hcalls, hrest, hpre⟩ := hP
 obtain ⟨-, -, -, hnamed, -, -, -, hat⟩ := (Spec.applies_iff hf).mp happ
 obtain ⟨hg, hn⟩ := and_e (Cond.before_iff.mp (show (Jvm.Cond.and given_1 narrow_1).before args s = true from hpre))
 obtain ⟨gg1, gg2⟩ := and_e hg
 obtain ⟨gg3, gg4⟩ := and_e gg2
 obtain ⟨gg5, gg6⟩ := and_e gg4
 obtain ⟨gg7, gg8⟩ := and_e gg6
 obtain ⟨gg9, gg10⟩ := and_e gg8
 obtain ⟨gg11, gg12⟩ := and_e gg10
 obtain ⟨w0, w1, w2, w3, w4, w5, rfl⟩ : ∃ w0 w1 w2 w3 w4 w5 : Value, args = #[w0, w1, w2, w3, w4, w5] := by
  have hs : args.size = 6 := by simpa [Cond.value, given_1] using gg1
  obtain ⟨L⟩ := args
  match L, hs with
  | [w0, w1, w2, w3, w4, w5], _ => exact ⟨w0, w1, w2, w3, w4, w5, rfl⟩
 have hw := fun d (hd : d ∈ tables_1) => atoms_spec (ws := Jvm.Cond.code x code maxLocals ret :: tables_1) hat d (List.mem_cons_of_mem _ hd)
 have hfit : Fit s := fun {y c} hc i hi => by
  obtain ⟨ha, rfl⟩ := Array.getElem?_eq_some_iff.mp hc
  have q := List.all_eq_true.mp ((Array.all_eq_true_iff_forall_mem.mp hF) _ (Array.getElem_mem ha)) i (List.mem_range.mpr hi)
  simpa [Array.getElem?_eq_getElem hi] using q
 obtain ⟨i0, ei0⟩ := is_v gg3
 obtain rfl : w0 = (.int i0) := Option.some.inj ei0
 obtain ⟨i1, ei1⟩ := is_v gg5
 obtain rfl : w1 = (.int i1) := Option.some.inj ei1
 obtain ⟨i2, ei2⟩ := isL_v gg7
 obtain rfl : w2 = (.long i2) := Option.some.inj ei2
 obtain ⟨i3, ei3⟩ := is_v gg9
 obtain rfl : w3 = (.int i3) := Option.some.inj ei3
 obtain ⟨i4, ei4⟩ := is_v gg11
 obtain rfl : w4 = (.int i4) := Option.some.inj ei4
 obtain ⟨i5, ei5⟩ := is_v gg12
 obtain rfl : w5 = (.int i5) := Option.some.inj ei5
 obtain ⟨n, o, h1, h2, h3, _, L, rfl, ⟨rfl, N⟩, hq⟩ := rm_law l s _ hw tables_1 i0 i1 i2 i3 i4 i5  s.heap s.heap.size (Nat.le_refl _)  p e ha hc hk s m _ below hf ((Spec.applies_iff_loose hf).mp happ).1 ⟨rfl, State.Warmed39.refl s, rfl⟩ trivial
 refine ⟨n, _, h1, h2, h3, hpost _ _ _ _ _ _ ⟨Cond.after_iff.mpr rfl, Cond.after_iff.mpr (eq_i res_at (Term.int_eval (1)) rfl), trivial⟩ ⟨hq.1, hq.2.1, (hq.2.2.sift fun y hy => Or.inr (N y hy)).mono (by decide) (by decide)⟩⟩
theorem main_1_1 : Claimed_1_1 := comes_1 fun _ _ _ _ _ _ h hF => ⟨h.1, hF⟩
theorem main_1_2 : Claimed_1_2 := comes_1 fun _ _ _ _ _ _ h hF => ⟨h.2.1, hF⟩
end Jvm.Pilot.@@N@@
namespace Jvm.Pilot.@@N@@
open Jvm Jvm.ClassFile Sem Op Lib Jvm.Free Jvm.Stand Jvm.Pilot.@@N@@.Jvm.D
/-! MADE BY PROGRAM (witnessworld.py) out of the Statement's table words and the real class files: 14 classes; the members and pool entries that the words name. The judged class is class 1, her method 5. -/
namespace start1
open Jvm.ClassFile
def u (s : String) : CpInfo := .utf8 (stringToUtf16 s)
/-- a pool by its gaps: so many unusable entries, then the entry; so many at the end -/
def gap : Nat → List CpInfo → List CpInfo
  | 0, r => r
  | n + 1, r => .unusable :: gap n r
def poolList (es : List (Nat × CpInfo)) (last : Nat) : List CpInfo := es.foldr (fun e r => gap e.1 (e.2 :: r)) (gap last [])
def pool (es : List (Nat × CpInfo)) (last : Nat) : Array CpInfo := ⟨poolList es last⟩
def fileOf (pool : Array CpInfo) (this : Nat) (attrs : Array Attribute := #[]) (ms : Array MethodInfo := #[]) (fl : Nat := 33) (sup : Nat := 0) (ifs : Array Nat := #[]) (fds : Array FieldInfo := #[]) : ClassFile where
  minorVersion := 0
  majorVersion := 65
  constantPool := pool
  accessFlags := fl
  thisClass := this
  superClass := sup
  interfaces := ifs
  fields := fds
  methods := ms
  attributes := attrs
def plain (name : String) (sup : Option ClassId) : Class where
  name := name
  kind := .ordinary
  loader := none
  accessFlags := 33
  super := sup
  interfaces := #[]
  cf := none
  fields := #[]
  methods := #[]
  instanceTypes := #[]
  staticTypes := #[]
  resolved := #[]
  callSites := []
  init := .initialized
  statics := none
  mirror := none

def pool0 : Array CpInfo := pool [(5, u "<init>"), (0, u "()V"), (1, .class_ 10), (1, u "java/lang/Object"), (85, u "clone"), (0, u "()Ljava/lang/Object;")] 26

def k0c0 : Code := { maxStack := 0, maxLocals := 1, code := object_method_1_code, exceptionTable := #[], attributes := #[] }
def k0m0 : Method := { name := "<init>", desc := "()V", sig := { parameters := [], returnType := none }, accessFlags := 1, code := some k0c0 }
def k0m1 : Method := { name := "clone", desc := "()Ljava/lang/Object;", sig := { parameters := [], returnType := some (.object "java/lang/Object") }, accessFlags := 260, code := none }
/-- java/lang/Object -/
def k0 : Class := { plain "java/lang/Object" none with
  accessFlags := 33
  interfaces := #[]
  cf := some (fileOf pool0 8 #[] #[{ accessFlags := 1, nameIndex := 5, descriptorIndex := 6, attributes := #[] }, { accessFlags := 260, nameIndex := 96, descriptorIndex := 97, attributes := #[] }] 33 0 #[] #[])
  fields := #[]
  methods := #[k0m0, k0m1]
  instanceTypes := #[]
  staticTypes := #[]
  resolved := Array.replicate 124 none
  statics := none }

def pool1 : Array CpInfo := pool [(2, .class_ 4), (1, u "java/lang/Object"), (0, u "<init>"), (0, u "()V"), (0, .methodref 8 9), (0, .class_ 10), (0, .nameAndType 11 12), (0, u "com/example/saturation/saturation/OpenNodeEdgesPinLaw"), (0, u "at"), (0, u "([I[III)Z"), (0, .integer 1073741823), (0, .methodref 8 15), (0, .nameAndType 16 17), (0, u "nz"), (0, u "(I)I"), (0, .integer 2147483647), (0, .methodref 8 20), (0, .nameAndType 21 22), (0, u "put"), (0, u "([IIII)V"), (0, .class_ 24), (0, u "com/example/saturation/saturation/OpenNode"), (0, .methodref 23 26), (0, .nameAndType 5 27), (0, u "([II)V"), (0, .methodref 23 29), (0, .nameAndType 30 31), (0, u "grow"), (0, u "(II)V"), (0, .methodref 23 33), (0, .nameAndType 34 35), (0, u "edges"), (0, u "()[I"), (0, .methodref 8 37), (0, .nameAndType 38 39), (0, u "same"), (0, u "([I[II)Z"), (3, u "law"), (0, u "(IIJIII)Z")] 4

def k1m0 : Method := { name := "<init>", desc := "()V", sig := { parameters := [], returnType := none }, accessFlags := 1, code := none }
def k1c1 : Code := { maxStack := 1, maxLocals := 1, code := method_2_code, exceptionTable := #[], attributes := #[] }
def k1m1 : Method := { name := "nz", desc := "(I)I", sig := { parameters := [.int], returnType := some .int }, accessFlags := 10, code := some k1c1 }
def k1c2 : Code := { maxStack := 3, maxLocals := 4, code := method_3_code, exceptionTable := #[], attributes := #[] }
def k1m2 : Method := { name := "put", desc := "([IIII)V", sig := { parameters := [(.array .int), .int, .int, .int], returnType := none }, accessFlags := 10, code := some k1c2 }
def k1c3 : Code := { maxStack := 3, maxLocals := 4, code := method_4_code, exceptionTable := #[], attributes := #[] }
def k1m3 : Method := { name := "at", desc := "([I[III)Z", sig := { parameters := [(.array .int), (.array .int), .int, .int], returnType := some .boolean }, accessFlags := 10, code := some k1c3 }
def k1c4 : Code := { maxStack := 4, maxLocals := 3, code := method_5_code, exceptionTable := #[], attributes := #[] }
def k1m4 : Method := { name := "same", desc := "([I[II)Z", sig := { parameters := [(.array .int), (.array .int), .int], returnType := some .boolean }, accessFlags := 10, code := some k1c4 }
def k1c5 : Code := { maxStack := 4, maxLocals := 23, code := code, exceptionTable := #[], attributes := #[] }
def k1m5 : Method := { name := "law", desc := "(IIJIII)Z", sig := { parameters := [.int, .int, .long, .int, .int, .int], returnType := some .boolean }, accessFlags := 9, code := some k1c5 }
/-- com/example/saturation/saturation/OpenNodeEdgesPinLaw -/
def k1 : Class := { plain "com/example/saturation/saturation/OpenNodeEdgesPinLaw" (some 0) with
  accessFlags := 49
  interfaces := #[]
  cf := some (fileOf pool1 8 #[] #[{ accessFlags := 1, nameIndex := 5, descriptorIndex := 6, attributes := #[] }, { accessFlags := 10, nameIndex := 16, descriptorIndex := 17, attributes := #[] }, { accessFlags := 10, nameIndex := 21, descriptorIndex := 22, attributes := #[] }, { accessFlags := 10, nameIndex := 11, descriptorIndex := 12, attributes := #[] }, { accessFlags := 10, nameIndex := 38, descriptorIndex := 39, attributes := #[] }, { accessFlags := 9, nameIndex := 43, descriptorIndex := 44, attributes := #[] }] 49 2 #[] #[])
  fields := #[]
  methods := #[k1m0, k1m1, k1m2, k1m3, k1m4, k1m5]
  instanceTypes := #[]
  staticTypes := #[]
  resolved := Array.replicate 49 none
  statics := none }

def pool2 : Array CpInfo := pool [(1, .class_ 2), (0, u "com/example/saturation/saturation/OpenNode"), (0, .methodref 4 5), (0, .class_ 6), (0, .nameAndType 7 8), (0, u "java/lang/Object"), (0, u "<init>"), (0, u "()V"), (0, .fieldref 1 10), (0, .nameAndType 11 12), (0, u "lastKey"), (0, u "I"), (0, .fieldref 1 14), (0, .nameAndType 15 16), (0, u "keys"), (0, u "[I"), (0, .fieldref 1 18), (0, .nameAndType 19 16), (0, u "slots"), (0, .fieldref 1 21), (0, .nameAndType 22 16), (0, u "children"), (0, .fieldref 1 24), (0, .nameAndType 25 12), (0, u "blocks"), (0, .fieldref 1 27), (0, .nameAndType 28 12), (0, u "count"), (0, .class_ 30), (0, u "[J"), (0, .fieldref 1 32), (0, .nameAndType 33 34), (0, u "pending"), (0, u "[[J"), (0, .fieldref 1 36), (0, .nameAndType 37 16), (0, u "pendingCount"), (0, .methodref 29 39), (0, .nameAndType 40 41), (0, u "clone"), (0, u "()Ljava/lang/Object;"), (0, .methodref 1 43), (0, .nameAndType 44 45), (0, u "position"), (0, u "(I)I"), (0, .methodref 1 47), (0, .nameAndType 48 49), (0, u "insert"), (0, u "(II)I"), (11, .fieldref 1 62), (0, .nameAndType 63 12), (0, u "lastPosition"), (0, .methodref 65 66), (0, .class_ 67), (0, .nameAndType 68 69), (0, u "java/util/Arrays"), (0, u "binarySearch"), (0, u "([IIII)I"), (0, .methodref 65 71), (0, .nameAndType 72 73), (0, u "copyOf"), (0, u "([II)[I"), (0, .methodref 65 75), (0, .nameAndType 72 76), (0, u "([JI)[J"), (0, .methodref 78 79), (0, .class_ 80), (0, .nameAndType 81 82), (0, u "java/lang/System"), (0, u "arraycopy"), (0, u "(Ljava/lang/Object;ILjava/lang/Object;II)V"), (0, u "BLOCK_BITS"), (2, u "IN_BLOCK"), (1, u "NO_CHILD"), (1, u "([II)V"), (5, u "grow"), (0, u "(II)V"), (5, u "edges"), (0, u "()[I")] 2

def k2c0 : Code := { maxStack := 8, maxLocals := 7, code := prog_38_method_1_code, exceptionTable := #[], attributes := #[] }
def k2m0 : Method := { name := "<init>", desc := "([II)V", sig := { parameters := [(.array .int), .int], returnType := none }, accessFlags := 0, code := some k2c0 }
def k2c1 : Code := { maxStack := 6, maxLocals := 10, code := prog_38_method_3_code, exceptionTable := #[], attributes := #[] }
def k2m1 : Method := { name := "grow", desc := "(II)V", sig := { parameters := [.int, .int], returnType := none }, accessFlags := 0, code := some k2c1 }
def k2c2 : Code := { maxStack := 5, maxLocals := 6, code := prog_38_method_8_code, exceptionTable := #[], attributes := #[] }
def k2m2 : Method := { name := "edges", desc := "()[I", sig := { parameters := [], returnType := some (.array .int) }, accessFlags := 0, code := some k2c2 }
def k2c3 : Code := { maxStack := 4, maxLocals := 3, code := prog_38_method_9_code, exceptionTable := #[], attributes := #[] }
def k2m3 : Method := { name := "position", desc := "(I)I", sig := { parameters := [.int], returnType := some .int }, accessFlags := 2, code := some k2c3 }
def k2c4 : Code := { maxStack := 6, maxLocals := 5, code := prog_38_method_10_code, exceptionTable := #[], attributes := #[] }
def k2m4 : Method := { name := "insert", desc := "(II)I", sig := { parameters := [.int, .int], returnType := some .int }, accessFlags := 2, code := some k2c4 }
/-- com/example/saturation/saturation/OpenNode -/
def k2 : Class := { plain "com/example/saturation/saturation/OpenNode" (some 0) with
  accessFlags := 32
  interfaces := #[]
  cf := some (fileOf pool2 1 #[] #[{ accessFlags := 0, nameIndex := 7, descriptorIndex := 90, attributes := #[] }, { accessFlags := 0, nameIndex := 96, descriptorIndex := 97, attributes := #[] }, { accessFlags := 0, nameIndex := 103, descriptorIndex := 104, attributes := #[] }, { accessFlags := 2, nameIndex := 44, descriptorIndex := 45, attributes := #[] }, { accessFlags := 2, nameIndex := 48, descriptorIndex := 49, attributes := #[] }] 32 4 #[] #[{ accessFlags := 26, nameIndex := 83, descriptorIndex := 12, attributes := #[] }, { accessFlags := 26, nameIndex := 86, descriptorIndex := 12, attributes := #[] }, { accessFlags := 26, nameIndex := 88, descriptorIndex := 12, attributes := #[] }, { accessFlags := 2, nameIndex := 15, descriptorIndex := 16, attributes := #[] }, { accessFlags := 2, nameIndex := 19, descriptorIndex := 16, attributes := #[] }, { accessFlags := 2, nameIndex := 25, descriptorIndex := 12, attributes := #[] }, { accessFlags := 2, nameIndex := 22, descriptorIndex := 16, attributes := #[] }, { accessFlags := 2, nameIndex := 28, descriptorIndex := 12, attributes := #[] }, { accessFlags := 18, nameIndex := 33, descriptorIndex := 34, attributes := #[] }, { accessFlags := 18, nameIndex := 37, descriptorIndex := 16, attributes := #[] }, { accessFlags := 2, nameIndex := 11, descriptorIndex := 12, attributes := #[] }, { accessFlags := 2, nameIndex := 63, descriptorIndex := 12, attributes := #[] }])
  fields := #[{ name := "BLOCK_BITS", type := .int, accessFlags := 26, slot := 0, constantValue := 0 }, { name := "IN_BLOCK", type := .int, accessFlags := 26, slot := 1, constantValue := 0 }, { name := "NO_CHILD", type := .int, accessFlags := 26, slot := 2, constantValue := 0 }, { name := "keys", type := (.array .int), accessFlags := 2, slot := 0, constantValue := 0 }, { name := "slots", type := (.array .int), accessFlags := 2, slot := 1, constantValue := 0 }, { name := "blocks", type := .int, accessFlags := 2, slot := 2, constantValue := 0 }, { name := "children", type := (.array .int), accessFlags := 2, slot := 3, constantValue := 0 }, { name := "count", type := .int, accessFlags := 2, slot := 4, constantValue := 0 }, { name := "pending", type := (.array (.array .long)), accessFlags := 18, slot := 5, constantValue := 0 }, { name := "pendingCount", type := (.array .int), accessFlags := 18, slot := 6, constantValue := 0 }, { name := "lastKey", type := .int, accessFlags := 2, slot := 7, constantValue := 0 }, { name := "lastPosition", type := .int, accessFlags := 2, slot := 8, constantValue := 0 }]
  methods := #[k2m0, k2m1, k2m2, k2m3, k2m4]
  instanceTypes := #[(.array .int), (.array .int), .int, (.array .int), .int, (.array (.array .long)), (.array .int), .int, .int]
  staticTypes := #[.int, .int, .int]
  resolved := Array.replicate 107 none
  statics := none }

def pool3 : Array CpInfo := pool [(2, .class_ 4), (1, u "java/lang/Object"), (0, u "<init>"), (0, u "()V"), (6, .methodref 14 15), (0, .class_ 16), (0, .nameAndType 17 18), (0, u "java/util/Arrays"), (0, u "rangeCheck"), (0, u "(III)V"), (55, .class_ 76), (1, u "java/util/Arrays$NaturalOrder"), (36, .class_ 115), (1, u "java/util/Arrays$LegacyMergeSort"), (1, u "Z"), (32, .methodref 151 152), (0, .class_ 153), (0, .nameAndType 154 155), (0, u "java/lang/System"), (0, u "arraycopy"), (0, u "(Ljava/lang/Object;ILjava/lang/Object;II)V"), (51, u "binarySearch0"), (1, .methodref 14 210), (0, .nameAndType 207 211), (0, u "([IIII)I"), (90, u "copyOf"), (1, .methodref 305 306), (0, .class_ 307), (0, .nameAndType 308 309), (0, u "java/lang/Math"), (0, u "min"), (0, u "(II)I"), (65, .class_ 376), (0, u "java/util/Arrays$ArrayList"), (68, u "$assertionsDisabled"), (269, u "MIN_ARRAY_SORT_GRAN"), (0, u "I"), (2, u "INSERTIONSORT_THRESHOLD"), (74, u "binarySearch"), (76, u "([II)[I"), (0, u "([JI)[J"), (102, .class_ 976), (0, u "java/util/Arrays$ArrayItr")] 52

def k3m0 : Method := { name := "<init>", desc := "()V", sig := { parameters := [], returnType := none }, accessFlags := 2, code := none }
def k3c1 : Code := { maxStack := 4, maxLocals := 3, code := jdk_65_method_30_code, exceptionTable := #[], attributes := #[] }
def k3m1 : Method := { name := "rangeCheck", desc := "(III)V", sig := { parameters := [.int, .int, .int], returnType := none }, accessFlags := 8, code := some k3c1 }
def k3c2 : Code := { maxStack := 4, maxLocals := 4, code := jdk_65_method_58_code, exceptionTable := #[], attributes := #[] }
def k3m2 : Method := { name := "binarySearch", desc := "([IIII)I", sig := { parameters := [(.array .int), .int, .int, .int], returnType := some .int }, accessFlags := 9, code := some k3c2 }
def k3c3 : Code := { maxStack := 2, maxLocals := 8, code := jdk_65_method_59_code, exceptionTable := #[], attributes := #[] }
def k3m3 : Method := { name := "binarySearch0", desc := "([IIII)I", sig := { parameters := [(.array .int), .int, .int, .int], returnType := some .int }, accessFlags := 10, code := some k3c3 }
def k3c4 : Code := { maxStack := 6, maxLocals := 3, code := jdk_65_method_123_code, exceptionTable := #[], attributes := #[] }
def k3m4 : Method := { name := "copyOf", desc := "([II)[I", sig := { parameters := [(.array .int), .int], returnType := some (.array .int) }, accessFlags := 9, code := some k3c4 }
def k3c5 : Code := { maxStack := 6, maxLocals := 3, code := jdk_65_method_124_code, exceptionTable := #[], attributes := #[] }
def k3m5 : Method := { name := "copyOf", desc := "([JI)[J", sig := { parameters := [(.array .long), .int], returnType := some (.array .long) }, accessFlags := 9, code := some k3c5 }
/-- java/util/Arrays -/
def k3 : Class := { plain "java/util/Arrays" (some 0) with
  accessFlags := 49
  interfaces := #[]
  cf := some (fileOf pool3 14 #[.nestMembers #[975, 375, 113, 74]] #[{ accessFlags := 2, nameIndex := 5, descriptorIndex := 6, attributes := #[] }, { accessFlags := 8, nameIndex := 17, descriptorIndex := 18, attributes := #[] }, { accessFlags := 9, nameIndex := 794, descriptorIndex := 211, attributes := #[] }, { accessFlags := 10, nameIndex := 207, descriptorIndex := 211, attributes := #[] }, { accessFlags := 9, nameIndex := 302, descriptorIndex := 871, attributes := #[] }, { accessFlags := 9, nameIndex := 302, descriptorIndex := 872, attributes := #[] }] 49 2 #[] #[{ accessFlags := 26, nameIndex := 715, descriptorIndex := 716, attributes := #[] }, { accessFlags := 26, nameIndex := 719, descriptorIndex := 716, attributes := #[] }, { accessFlags := 4120, nameIndex := 445, descriptorIndex := 117, attributes := #[] }])
  fields := #[{ name := "MIN_ARRAY_SORT_GRAN", type := .int, accessFlags := 26, slot := 0, constantValue := 0 }, { name := "INSERTIONSORT_THRESHOLD", type := .int, accessFlags := 26, slot := 1, constantValue := 0 }, { name := "$assertionsDisabled", type := .boolean, accessFlags := 4120, slot := 2, constantValue := 0 }]
  methods := #[k3m0, k3m1, k3m2, k3m3, k3m4, k3m5]
  instanceTypes := #[]
  staticTypes := #[.int, .int, .boolean]
  resolved := Array.replicate 1029 none
  statics := none }

def pool4 : Array CpInfo := pool [(2, .class_ 4), (1, u "java/lang/Object"), (0, u "<init>"), (0, u "()V"), (1, .class_ 10), (1, u "java/lang/System"), (0, u "allowSecurityManager"), (0, u "I"), (16, u "cons"), (0, u "Ljava/io/Console;"), (77, .class_ 110), (1, u "java/lang/System$CallersHolder"), (43, u "initialErrStream"), (0, u "Ljava/io/PrintStream;"), (19, u "security"), (0, u "Ljava/lang/SecurityManager;"), (31, .class_ 209), (0, u "java/lang/System$1"), (7, u "props"), (0, u "Ljava/util/Properties;"), (2, u "lineSeparator"), (0, u "Ljava/lang/String;"), (96, .class_ 321), (1, u "java/lang/System$LoggerFinder"), (5, .class_ 328), (0, u "java/lang/System$Logger"), (67, u "err"), (2, u "out"), (91, u "notSupportedJnuEncoding"), (15, u "in"), (17, u "initialIn"), (0, u "Ljava/io/InputStream;"), (35, u "bootLayer"), (0, u "Ljava/lang/ModuleLayer;"), (99, .class_ 664), (0, u "java/lang/System$2"), (9, u "NEVER"), (2, u "MAYBE"), (49, u "arraycopy"), (0, u "(Ljava/lang/Object;ILjava/lang/Object;II)V"), (72, .class_ 802), (0, u "java/lang/System$Logger$Level")] 31

def k4m0 : Method := { name := "<init>", desc := "()V", sig := { parameters := [], returnType := none }, accessFlags := 2, code := none }
def k4m1 : Method := { name := "arraycopy", desc := "(Ljava/lang/Object;ILjava/lang/Object;II)V", sig := { parameters := [(.object "java/lang/Object"), .int, (.object "java/lang/Object"), .int, .int], returnType := none }, accessFlags := 265, code := none }
/-- java/lang/System -/
def k4 : Class := { plain "java/lang/System" (some 0) with
  accessFlags := 49
  interfaces := #[]
  cf := some (fileOf pool4 8 #[.nestMembers #[319, 327, 801, 108, 663, 208]] #[{ accessFlags := 2, nameIndex := 5, descriptorIndex := 6, attributes := #[] }, { accessFlags := 265, nameIndex := 727, descriptorIndex := 728, attributes := #[] }] 49 2 #[] #[{ accessFlags := 25, nameIndex := 507, descriptorIndex := 526, attributes := #[] }, { accessFlags := 25, nameIndex := 399, descriptorIndex := 155, attributes := #[] }, { accessFlags := 25, nameIndex := 396, descriptorIndex := 155, attributes := #[] }, { accessFlags := 10, nameIndex := 525, descriptorIndex := 526, attributes := #[] }, { accessFlags := 26, nameIndex := 674, descriptorIndex := 12, attributes := #[] }, { accessFlags := 26, nameIndex := 677, descriptorIndex := 12, attributes := #[] }, { accessFlags := 10, nameIndex := 11, descriptorIndex := 12, attributes := #[] }, { accessFlags := 74, nameIndex := 175, descriptorIndex := 176, attributes := #[] }, { accessFlags := 10, nameIndex := 491, descriptorIndex := 222, attributes := #[] }, { accessFlags := 74, nameIndex := 29, descriptorIndex := 30, attributes := #[] }, { accessFlags := 74, nameIndex := 154, descriptorIndex := 155, attributes := #[] }, { accessFlags := 10, nameIndex := 217, descriptorIndex := 218, attributes := #[] }, { accessFlags := 10, nameIndex := 221, descriptorIndex := 222, attributes := #[] }, { accessFlags := 8, nameIndex := 562, descriptorIndex := 563, attributes := #[] }])
  fields := #[{ name := "in", type := (.object "java/io/InputStream"), accessFlags := 25, slot := 0, constantValue := 0 }, { name := "out", type := (.object "java/io/PrintStream"), accessFlags := 25, slot := 1, constantValue := 0 }, { name := "err", type := (.object "java/io/PrintStream"), accessFlags := 25, slot := 2, constantValue := 0 }, { name := "initialIn", type := (.object "java/io/InputStream"), accessFlags := 10, slot := 3, constantValue := 0 }, { name := "NEVER", type := .int, accessFlags := 26, slot := 4, constantValue := 0 }, { name := "MAYBE", type := .int, accessFlags := 26, slot := 5, constantValue := 0 }, { name := "allowSecurityManager", type := .int, accessFlags := 10, slot := 6, constantValue := 0 }, { name := "security", type := (.object "java/lang/SecurityManager"), accessFlags := 74, slot := 7, constantValue := 0 }, { name := "notSupportedJnuEncoding", type := (.object "java/lang/String"), accessFlags := 10, slot := 8, constantValue := 0 }, { name := "cons", type := (.object "java/io/Console"), accessFlags := 74, slot := 9, constantValue := 0 }, { name := "initialErrStream", type := (.object "java/io/PrintStream"), accessFlags := 74, slot := 10, constantValue := 0 }, { name := "props", type := (.object "java/util/Properties"), accessFlags := 10, slot := 11, constantValue := 0 }, { name := "lineSeparator", type := (.object "java/lang/String"), accessFlags := 10, slot := 12, constantValue := 0 }, { name := "bootLayer", type := (.object "java/lang/ModuleLayer"), accessFlags := 8, slot := 13, constantValue := 0 }]
  methods := #[k4m0, k4m1]
  instanceTypes := #[]
  staticTypes := #[(.object "java/io/InputStream"), (.object "java/io/PrintStream"), (.object "java/io/PrintStream"), (.object "java/io/InputStream"), .int, .int, .int, (.object "java/lang/SecurityManager"), (.object "java/lang/String"), (.object "java/io/Console"), (.object "java/io/PrintStream"), (.object "java/util/Properties"), (.object "java/lang/String"), (.object "java/lang/ModuleLayer")]
  resolved := Array.replicate 834 none
  statics := none }

def pool5 : Array CpInfo := pool [(1, .class_ 2), (0, u "java/lang/Cloneable"), (0, .class_ 4), (0, u "java/lang/Object")] 2

/-- java/lang/Cloneable -/
def k5 : Class := { plain "java/lang/Cloneable" (some 0) with
  accessFlags := 1537
  interfaces := #[]
  cf := some (fileOf pool5 1 #[] #[] 1537 3 #[] #[])
  fields := #[]
  methods := #[]
  instanceTypes := #[]
  staticTypes := #[]
  resolved := Array.replicate 7 none
  statics := none }

def pool6 : Array CpInfo := pool [(1, .class_ 2), (0, u "java/lang/Math"), (1, .class_ 6), (1, u "java/lang/Object"), (0, u "<init>"), (0, u "()V"), (89, .class_ 100), (1, u "java/lang/Math$RandomNumberGeneratorHolder"), (71, u "negativeZeroFloatBits"), (0, u "J"), (2, u "negativeZeroDoubleBits"), (24, u "min"), (43, u "$assertionsDisabled"), (0, u "Z"), (88, u "(II)I"), (2, u "twoToTheDoubleScaleDown"), (0, u "D"), (4, u "twoToTheDoubleScaleUp"), (9, u "E"), (3, u "PI"), (2, u "TAU"), (2, u "DEGREES_TO_RADIANS"), (0, u "RADIANS_TO_DEGREES")] 94

def k6m0 : Method := { name := "<init>", desc := "()V", sig := { parameters := [], returnType := none }, accessFlags := 2, code := none }
def k6c1 : Code := { maxStack := 2, maxLocals := 2, code := jdk_29_method_69_code, exceptionTable := #[], attributes := #[] }
def k6m1 : Method := { name := "min", desc := "(II)I", sig := { parameters := [.int, .int], returnType := some .int }, accessFlags := 9, code := some k6c1 }
/-- java/lang/Math -/
def k6 : Class := { plain "java/lang/Math" (some 0) with
  accessFlags := 49
  interfaces := #[]
  cf := some (fileOf pool6 1 #[.nestMembers #[98]] #[{ accessFlags := 2, nameIndex := 7, descriptorIndex := 8, attributes := #[] }, { accessFlags := 9, nameIndex := 201, descriptorIndex := 335, attributes := #[] }] 49 4 #[] #[{ accessFlags := 25, nameIndex := 354, descriptorIndex := 339, attributes := #[] }, { accessFlags := 25, nameIndex := 358, descriptorIndex := 339, attributes := #[] }, { accessFlags := 25, nameIndex := 361, descriptorIndex := 339, attributes := #[] }, { accessFlags := 26, nameIndex := 364, descriptorIndex := 339, attributes := #[] }, { accessFlags := 26, nameIndex := 365, descriptorIndex := 339, attributes := #[] }, { accessFlags := 26, nameIndex := 172, descriptorIndex := 173, attributes := #[] }, { accessFlags := 26, nameIndex := 176, descriptorIndex := 173, attributes := #[] }, { accessFlags := 8, nameIndex := 344, descriptorIndex := 339, attributes := #[] }, { accessFlags := 8, nameIndex := 338, descriptorIndex := 339, attributes := #[] }, { accessFlags := 4120, nameIndex := 245, descriptorIndex := 246, attributes := #[] }])
  fields := #[{ name := "E", type := .double, accessFlags := 25, slot := 0, constantValue := 0 }, { name := "PI", type := .double, accessFlags := 25, slot := 1, constantValue := 0 }, { name := "TAU", type := .double, accessFlags := 25, slot := 2, constantValue := 0 }, { name := "DEGREES_TO_RADIANS", type := .double, accessFlags := 26, slot := 3, constantValue := 0 }, { name := "RADIANS_TO_DEGREES", type := .double, accessFlags := 26, slot := 4, constantValue := 0 }, { name := "negativeZeroFloatBits", type := .long, accessFlags := 26, slot := 5, constantValue := 0 }, { name := "negativeZeroDoubleBits", type := .long, accessFlags := 26, slot := 6, constantValue := 0 }, { name := "twoToTheDoubleScaleUp", type := .double, accessFlags := 8, slot := 7, constantValue := 0 }, { name := "twoToTheDoubleScaleDown", type := .double, accessFlags := 8, slot := 8, constantValue := 0 }, { name := "$assertionsDisabled", type := .boolean, accessFlags := 4120, slot := 9, constantValue := 0 }]
  methods := #[k6m0, k6m1]
  instanceTypes := #[]
  staticTypes := #[.double, .double, .double, .double, .double, .long, .long, .double, .double, .boolean]
  resolved := Array.replicate 460 none
  statics := none }

def pool7 : Array CpInfo := pool [(1, u "java/io/Serializable"), (0, .class_ 1), (0, u "java/lang/Object"), (0, .class_ 3)] 3

/-- java/io/Serializable -/
def k7 : Class := { plain "java/io/Serializable" (some 0) with
  accessFlags := 1537
  interfaces := #[]
  cf := some (fileOf pool7 2 #[] #[] 1537 4 #[] #[])
  fields := #[]
  methods := #[]
  instanceTypes := #[]
  staticTypes := #[]
  resolved := Array.replicate 8 none
  statics := none }

/-- the primitive byte -/
def k8 : Class := { plain "byte" none with kind := .primitive 'B', accessFlags := 0x411 }
/-- [B -/
def k9 : Class := { plain "[B" (some 0) with kind := .array 8 .byte, interfaces := #[5, 7], accessFlags := 1041 }

/-- the primitive int -/
def k10 : Class := { plain "int" none with kind := .primitive 'I', accessFlags := 0x411 }
/-- [I -/
def k11 : Class := { plain "[I" (some 0) with kind := .array 10 .int, interfaces := #[5, 7], accessFlags := 1041 }

/-- the primitive long -/
def k12 : Class := { plain "long" none with kind := .primitive 'J', accessFlags := 0x411 }
/-- [J -/
def k13 : Class := { plain "[J" (some 0) with kind := .array 12 .long, interfaces := #[5, 7], accessFlags := 1041 }

def heap : Heap := #[]
/-- [[J -/
def k14 : Class := { plain "[[J" (some 0) with kind := .array 13 (.array .long), interfaces := #[5, 7], accessFlags := 1041 }
def classes : Array Class := #[k0, k1, k2, k3, k4, k5, k6, k7, k8, k9, k10, k11, k12, k13, k14]
def interned : List (Array UInt16 × Addr) := []
def slotsUsed : Nat := 0
def theMethod : MethodId := ⟨1, 5⟩
def args0 : Array Value := #[.int 5, .int 5, .long 5, .int 5, .int 5, .int 5]
def aboutOver (below : List Frame) : State where
  vm := { classes := classes, interned := interned.toArray }
  heap := heap
  slotsUsed := slotsUsed
  threads := #[{ frames := .invoking theMethod args0 :: below }]
def below0 : List Frame := [.native { method := ⟨0, 0⟩, args := #[] }]
def about1 : State := aboutOver below0
def p0 : Program := .bare "" "" ""
def e0 : Env := launch0.env 0 0 0
theorem w_frames : about1.frames = Frame.invoking theMethod args0 :: below0 := rfl
set_option maxRecDepth 65536 in
theorem w_args : argsFit about1.vm theMethod args0 = true := by decide +kernel
set_option maxRecDepth 65536 in
theorem w_heap : heapFits about1 = true := by decide +kernel
set_option maxRecDepth 65536 in
theorem w_runnable : about1.curStatus? = some .runnable := by decide +kernel
set_option maxRecDepth 65536 in
theorem w_alone : about1.alone = true := by decide +kernel
set_option maxRecDepth 65536 in
theorem w_named : about1.methodNamed? x = some theMethod := by decide +kernel
set_option maxRecDepth 65536 in
theorem w_hears : about1.hears theMethod below0 = true := by decide +kernel
set_option maxRecDepth 65536 in
theorem w_ripe : about1.ripe theMethod args0 below0 = true := by decide +kernel
theorem w_running : about1.status = .running := rfl
set_option maxRecDepth 65536 in
theorem w_room : about1.hasRoom e0.platform room_1 = true :=
  launch0.hasRoom_least _ room_1 (by decide +kernel) (by decide +kernel) (by decide +kernel) (by decide +kernel) (by decide +kernel) (by decide +kernel)
theorem allAtoms_all (ts : List Jvm.Cond) (a : Array Jvm.Value) (st : Jvm.State) : (allAtoms ts).before a st = ts.all (fun c => c.before a st) := by
  induction ts with
  | nil => rfl
  | cons c t ih =>
    show (Jvm.Cond.and c (allAtoms t)).before a st = _
    rw [Jvm.Cond.before_and, ih, List.all_cons]
def words1 : List Jvm.Cond := Jvm.Cond.code x code maxLocals ret :: tables_1
/-- a 'code' word, met by the world's own term for the bytes: nothing is compared byte by byte -/
theorem code_word {y : MethodName} {bytes : ByteArray} {mx : Nat} {rt : Option FieldType} {a : Array Value} {s : State} {m : MethodId} {meth : Method} {c : Code} (h1 : s.methodNamed? y = some m) (h2 : s.vm.method? m = some meth) (h3 : meth.code = some c) (h4 : c.code = bytes)
    (h5 : (c.maxLocals == mx && c.exceptionTable.isEmpty && decide (c.maxStack ≤ mostOperands) && decide (meth.sig.returnType = rt) && !meth.locks && decide (parseMethodDescriptor y.desc = some meth.sig)) = true) : (Jvm.Cond.code y bytes mx rt).before a s = true := by
  simp only [Bool.and_eq_true, beq_iff_eq, Bool.not_eq_true', decide_eq_true_eq] at h5
  obtain ⟨⟨⟨⟨⟨g1, g2⟩, g3⟩, g4⟩, g5⟩, g6⟩ := h5
  simp [Cond.before, Cond.holds, Cond.value, h1, h2, h3, h4, g1, g2, g3, g4, g5, g6]
def isCode : Jvm.Cond → Bool
  | .code _ _ _ _ => true
  | _ => false
theorem all_split {L : List Jvm.Cond} {P : Jvm.Cond → Bool} (h1 : L.all (fun c => isCode c || P c) = true) (h2 : ∀ c ∈ L.filter isCode, P c = true) : L.all P = true := by
  refine List.all_eq_true.mpr fun c hc => ?_
  have h := List.all_eq_true.mp h1 c hc
  rcases Bool.eq_false_or_eq_true (isCode c) with hi | hi
  · exact h2 c (List.mem_filter.mpr ⟨hc, hi⟩)
  · simpa [hi] using h
set_option maxRecDepth 65536 in
theorem w_c0 : (Jvm.Cond.code x code maxLocals ret).before args0 about1 = true := code_word (m := ⟨1, 5⟩) (meth := k1m5) (c := k1c5) (by decide +kernel) rfl rfl rfl (by decide +kernel)
set_option maxRecDepth 65536 in
theorem w_c1 : (Jvm.Cond.code ({ cls := "com/example/saturation/saturation/OpenNodeEdgesPinLaw", name := "nz", desc := "(I)I" } : Jvm.MethodName) method_2_code (1 : Nat) (Option.some Jvm.ClassFile.FieldType.int)).before args0 about1 = true := code_word (m := ⟨1, 1⟩) (meth := k1m1) (c := k1c1) (by decide +kernel) rfl rfl rfl (by decide +kernel)
set_option maxRecDepth 65536 in
theorem w_c2 : (Jvm.Cond.code ({ cls := "com/example/saturation/saturation/OpenNodeEdgesPinLaw", name := "put", desc := "([IIII)V" } : Jvm.MethodName) method_3_code (4 : Nat) (Option.none : Option Jvm.ClassFile.FieldType)).before args0 about1 = true := code_word (m := ⟨1, 2⟩) (meth := k1m2) (c := k1c2) (by decide +kernel) rfl rfl rfl (by decide +kernel)
set_option maxRecDepth 65536 in
theorem w_c3 : (Jvm.Cond.code ({ cls := "com/example/saturation/saturation/OpenNode", name := "<init>", desc := "([II)V" } : Jvm.MethodName) prog_38_method_1_code (7 : Nat) (Option.none : Option Jvm.ClassFile.FieldType)).before args0 about1 = true := code_word (m := ⟨2, 0⟩) (meth := k2m0) (c := k2c0) (by decide +kernel) rfl rfl rfl (by decide +kernel)
set_option maxRecDepth 65536 in
theorem w_c4 : (Jvm.Cond.code ({ cls := "java/lang/Object", name := "<init>", desc := "()V" } : Jvm.MethodName) object_method_1_code (1 : Nat) (Option.none : Option Jvm.ClassFile.FieldType)).before args0 about1 = true := code_word (m := ⟨0, 0⟩) (meth := k0m0) (c := k0c0) (by decide +kernel) rfl rfl rfl (by decide +kernel)
set_option maxRecDepth 65536 in
theorem w_c5 : (Jvm.Cond.code ({ cls := "com/example/saturation/saturation/OpenNode", name := "grow", desc := "(II)V" } : Jvm.MethodName) prog_38_method_3_code (10 : Nat) (Option.none : Option Jvm.ClassFile.FieldType)).before args0 about1 = true := code_word (m := ⟨2, 1⟩) (meth := k2m1) (c := k2c1) (by decide +kernel) rfl rfl rfl (by decide +kernel)
set_option maxRecDepth 65536 in
theorem w_c6 : (Jvm.Cond.code ({ cls := "com/example/saturation/saturation/OpenNode", name := "position", desc := "(I)I" } : Jvm.MethodName) prog_38_method_9_code (3 : Nat) (Option.some Jvm.ClassFile.FieldType.int)).before args0 about1 = true := code_word (m := ⟨2, 3⟩) (meth := k2m3) (c := k2c3) (by decide +kernel) rfl rfl rfl (by decide +kernel)
set_option maxRecDepth 65536 in
theorem w_c7 : (Jvm.Cond.code ({ cls := "java/util/Arrays", name := "binarySearch", desc := "([IIII)I" } : Jvm.MethodName) jdk_65_method_58_code (4 : Nat) (Option.some Jvm.ClassFile.FieldType.int)).before args0 about1 = true := code_word (m := ⟨3, 2⟩) (meth := k3m2) (c := k3c2) (by decide +kernel) rfl rfl rfl (by decide +kernel)
set_option maxRecDepth 65536 in
theorem w_c8 : (Jvm.Cond.code ({ cls := "java/util/Arrays", name := "rangeCheck", desc := "(III)V" } : Jvm.MethodName) jdk_65_method_30_code (3 : Nat) (Option.none : Option Jvm.ClassFile.FieldType)).before args0 about1 = true := code_word (m := ⟨3, 1⟩) (meth := k3m1) (c := k3c1) (by decide +kernel) rfl rfl rfl (by decide +kernel)
set_option maxRecDepth 65536 in
theorem w_c9 : (Jvm.Cond.code ({ cls := "java/util/Arrays", name := "binarySearch0", desc := "([IIII)I" } : Jvm.MethodName) jdk_65_method_59_code (8 : Nat) (Option.some Jvm.ClassFile.FieldType.int)).before args0 about1 = true := code_word (m := ⟨3, 3⟩) (meth := k3m3) (c := k3c3) (by decide +kernel) rfl rfl rfl (by decide +kernel)
set_option maxRecDepth 65536 in
theorem w_c10 : (Jvm.Cond.code ({ cls := "com/example/saturation/saturation/OpenNode", name := "insert", desc := "(II)I" } : Jvm.MethodName) prog_38_method_10_code (5 : Nat) (Option.some Jvm.ClassFile.FieldType.int)).before args0 about1 = true := code_word (m := ⟨2, 4⟩) (meth := k2m4) (c := k2c4) (by decide +kernel) rfl rfl rfl (by decide +kernel)
set_option maxRecDepth 65536 in
theorem w_c11 : (Jvm.Cond.code ({ cls := "com/example/saturation/saturation/OpenNode", name := "edges", desc := "()[I" } : Jvm.MethodName) prog_38_method_8_code (6 : Nat) (Option.some (Jvm.ClassFile.FieldType.array Jvm.ClassFile.FieldType.int))).before args0 about1 = true := code_word (m := ⟨2, 2⟩) (meth := k2m2) (c := k2c2) (by decide +kernel) rfl rfl rfl (by decide +kernel)
set_option maxRecDepth 65536 in
theorem w_c12 : (Jvm.Cond.code ({ cls := "com/example/saturation/saturation/OpenNodeEdgesPinLaw", name := "same", desc := "([I[II)Z" } : Jvm.MethodName) method_5_code (3 : Nat) (Option.some Jvm.ClassFile.FieldType.boolean)).before args0 about1 = true := code_word (m := ⟨1, 4⟩) (meth := k1m4) (c := k1c4) (by decide +kernel) rfl rfl rfl (by decide +kernel)
set_option maxRecDepth 65536 in
theorem w_c13 : (Jvm.Cond.code ({ cls := "com/example/saturation/saturation/OpenNodeEdgesPinLaw", name := "at", desc := "([I[III)Z" } : Jvm.MethodName) method_4_code (4 : Nat) (Option.some Jvm.ClassFile.FieldType.boolean)).before args0 about1 = true := code_word (m := ⟨1, 3⟩) (meth := k1m3) (c := k1c3) (by decide +kernel) rfl rfl rfl (by decide +kernel)
set_option maxRecDepth 65536 in
theorem w_c14 : (Jvm.Cond.code ({ cls := "java/util/Arrays", name := "copyOf", desc := "([II)[I" } : Jvm.MethodName) jdk_65_method_123_code (3 : Nat) (Option.some (Jvm.ClassFile.FieldType.array Jvm.ClassFile.FieldType.int))).before args0 about1 = true := code_word (m := ⟨3, 4⟩) (meth := k3m4) (c := k3c4) (by decide +kernel) rfl rfl rfl (by decide +kernel)
set_option maxRecDepth 65536 in
theorem w_c15 : (Jvm.Cond.code ({ cls := "java/lang/Math", name := "min", desc := "(II)I" } : Jvm.MethodName) jdk_29_method_69_code (2 : Nat) (Option.some Jvm.ClassFile.FieldType.int)).before args0 about1 = true := code_word (m := ⟨6, 1⟩) (meth := k6m1) (c := k6c1) (by decide +kernel) rfl rfl rfl (by decide +kernel)
set_option maxRecDepth 65536 in
theorem w_c16 : (Jvm.Cond.code ({ cls := "java/util/Arrays", name := "copyOf", desc := "([JI)[J" } : Jvm.MethodName) jdk_65_method_124_code (3 : Nat) (Option.some (Jvm.ClassFile.FieldType.array Jvm.ClassFile.FieldType.long))).before args0 about1 = true := code_word (m := ⟨3, 5⟩) (meth := k3m5) (c := k3c5) (by decide +kernel) rfl rfl rfl (by decide +kernel)
def codes1 : List Jvm.Cond := [Jvm.Cond.code x code maxLocals ret, Jvm.Cond.code ({ cls := "com/example/saturation/saturation/OpenNodeEdgesPinLaw", name := "nz", desc := "(I)I" } : Jvm.MethodName) method_2_code (1 : Nat) (Option.some Jvm.ClassFile.FieldType.int), Jvm.Cond.code ({ cls := "com/example/saturation/saturation/OpenNodeEdgesPinLaw", name := "put", desc := "([IIII)V" } : Jvm.MethodName) method_3_code (4 : Nat) (Option.none : Option Jvm.ClassFile.FieldType), Jvm.Cond.code ({ cls := "com/example/saturation/saturation/OpenNode", name := "<init>", desc := "([II)V" } : Jvm.MethodName) prog_38_method_1_code (7 : Nat) (Option.none : Option Jvm.ClassFile.FieldType), Jvm.Cond.code ({ cls := "java/lang/Object", name := "<init>", desc := "()V" } : Jvm.MethodName) object_method_1_code (1 : Nat) (Option.none : Option Jvm.ClassFile.FieldType), Jvm.Cond.code ({ cls := "com/example/saturation/saturation/OpenNode", name := "grow", desc := "(II)V" } : Jvm.MethodName) prog_38_method_3_code (10 : Nat) (Option.none : Option Jvm.ClassFile.FieldType), Jvm.Cond.code ({ cls := "com/example/saturation/saturation/OpenNode", name := "position", desc := "(I)I" } : Jvm.MethodName) prog_38_method_9_code (3 : Nat) (Option.some Jvm.ClassFile.FieldType.int), Jvm.Cond.code ({ cls := "java/util/Arrays", name := "binarySearch", desc := "([IIII)I" } : Jvm.MethodName) jdk_65_method_58_code (4 : Nat) (Option.some Jvm.ClassFile.FieldType.int), Jvm.Cond.code ({ cls := "java/util/Arrays", name := "rangeCheck", desc := "(III)V" } : Jvm.MethodName) jdk_65_method_30_code (3 : Nat) (Option.none : Option Jvm.ClassFile.FieldType), Jvm.Cond.code ({ cls := "java/util/Arrays", name := "binarySearch0", desc := "([IIII)I" } : Jvm.MethodName) jdk_65_method_59_code (8 : Nat) (Option.some Jvm.ClassFile.FieldType.int), Jvm.Cond.code ({ cls := "com/example/saturation/saturation/OpenNode", name := "insert", desc := "(II)I" } : Jvm.MethodName) prog_38_method_10_code (5 : Nat) (Option.some Jvm.ClassFile.FieldType.int), Jvm.Cond.code ({ cls := "com/example/saturation/saturation/OpenNode", name := "edges", desc := "()[I" } : Jvm.MethodName) prog_38_method_8_code (6 : Nat) (Option.some (Jvm.ClassFile.FieldType.array Jvm.ClassFile.FieldType.int)), Jvm.Cond.code ({ cls := "com/example/saturation/saturation/OpenNodeEdgesPinLaw", name := "same", desc := "([I[II)Z" } : Jvm.MethodName) method_5_code (3 : Nat) (Option.some Jvm.ClassFile.FieldType.boolean), Jvm.Cond.code ({ cls := "com/example/saturation/saturation/OpenNodeEdgesPinLaw", name := "at", desc := "([I[III)Z" } : Jvm.MethodName) method_4_code (4 : Nat) (Option.some Jvm.ClassFile.FieldType.boolean), Jvm.Cond.code ({ cls := "java/util/Arrays", name := "copyOf", desc := "([II)[I" } : Jvm.MethodName) jdk_65_method_123_code (3 : Nat) (Option.some (Jvm.ClassFile.FieldType.array Jvm.ClassFile.FieldType.int)), Jvm.Cond.code ({ cls := "java/lang/Math", name := "min", desc := "(II)I" } : Jvm.MethodName) jdk_29_method_69_code (2 : Nat) (Option.some Jvm.ClassFile.FieldType.int), Jvm.Cond.code ({ cls := "java/util/Arrays", name := "copyOf", desc := "([JI)[J" } : Jvm.MethodName) jdk_65_method_124_code (3 : Nat) (Option.some (Jvm.ClassFile.FieldType.array Jvm.ClassFile.FieldType.long))]
set_option maxRecDepth 65536 in
theorem codes_eq : words1.filter isCode = codes1 := rfl
theorem w_codes : ∀ c ∈ words1.filter isCode, c.before args0 about1 = true := by
  rw [codes_eq]
  intro c hc
  simp only [codes1, List.mem_cons, List.not_mem_nil, or_false] at hc
  rcases hc with rfl | rfl | rfl | rfl | rfl | rfl | rfl | rfl | rfl | rfl | rfl | rfl | rfl | rfl | rfl | rfl | rfl
  · exact w_c0
  · exact w_c1
  · exact w_c2
  · exact w_c3
  · exact w_c4
  · exact w_c5
  · exact w_c6
  · exact w_c7
  · exact w_c8
  · exact w_c9
  · exact w_c10
  · exact w_c11
  · exact w_c12
  · exact w_c13
  · exact w_c14
  · exact w_c15
  · exact w_c16
set_option maxRecDepth 65536 in
theorem w_t1 : (words1.take 24).all (fun c => isCode c || c.before args0 about1) = true := by decide +kernel
set_option maxRecDepth 65536 in
theorem w_t2 : ((words1.drop 24).take 24).all (fun c => isCode c || c.before args0 about1) = true := by decide +kernel
set_option maxRecDepth 65536 in
theorem w_t3 : (((words1.drop 24).drop 24).take 24).all (fun c => isCode c || c.before args0 about1) = true := by decide +kernel
set_option maxRecDepth 65536 in
theorem w_t4 : ((((words1.drop 24).drop 24).drop 24).take 24).all (fun c => isCode c || c.before args0 about1) = true := by decide +kernel
set_option maxRecDepth 65536 in
theorem w_t5 : ((((words1.drop 24).drop 24).drop 24).drop 24).all (fun c => isCode c || c.before args0 about1) = true := by decide +kernel
theorem w_tables : (allAtoms (Jvm.Cond.code x code maxLocals ret :: tables_1)).before args0 about1 = true := by
  rw [allAtoms_all]
  show words1.all (fun c => c.before args0 about1) = true
  refine all_split ?_ w_codes
  rw [← List.take_append_drop 24 words1, List.all_append, w_t1, ← List.take_append_drop 24 (words1.drop 24), List.all_append, w_t2, ← List.take_append_drop 24 ((words1.drop 24).drop 24), List.all_append, w_t3, ← List.take_append_drop 24 (((words1.drop 24).drop 24).drop 24), List.all_append, w_t4, w_t5]
  rfl
set_option maxRecDepth 65536 in
theorem w_case : (Jvm.Cond.and given_1 narrow_1).before args0 about1 = true := by decide +kernel
theorem w_applies : (headSpec (Jvm.Cond.code x code maxLocals ret :: tables_1) room_1).applies x e0.platform about1 = true :=
  (Spec.applies_iff w_frames).mpr ⟨w_running, w_runnable, w_alone, w_named, w_hears, w_ripe, w_room, w_tables⟩
theorem atStart : AtStart classFile x code maxLocals ret World_1 tables_1 room_1 Calls_1 rest_1 Pre_1 launch0 p0 e0 about1 theMethod args0 below0 :=
  ⟨lists_1, trivial, launch0.admits_env _ _ _, launch0.least_env, fairChoices_fair.cas, fairChoices_fair.clock, w_frames, w_args, w_heap, w_applies, trivial, trivial, w_case⟩
end start1
theorem witness_1 : WitnessClaimed_1 := ⟨start1.p0, start1.e0, start1.about1, start1.theMethod, start1.args0, start1.below0, start1.atStart⟩
end Jvm.Pilot.@@N@@
