import JvmDerived
import JvmDerived.Pilot.@@N@@Statement
import JvmDerived.Pilot.@@N@@Code
set_option linter.unusedVariables false
set_option linter.unusedSimpArgs false
namespace Jvm.Pilot.@@N@@
open Jvm Jvm.ClassFile Sem Op Lib Jvm.Free Jvm.Stand Jvm.LawKit Jvm.RoadKit Bundle Jvm.Pilot.@@N@@.Jvm.D
abbrev own_Go (p : Program) (e : Env) (below : List Frame) (A B : State) : Prop := ∀ t, Steps p.tables e below A t → Steps p.tables e below B t

def own_bl (u : Int32) : Int32 := if u = 32 then 1 else if u = 9 then 1 else 0

theorem own_pn0 : plainName "com/example/datumbridge/datumbridge/cli/InputLines" = true := by first | (simp [plainName, overriddenIn]; done) | decide +kernel
theorem own_ef1_I (m : MethodId) (x0 : Int32) : entryFrame m #[(.int x0)] 1 = mkF m 0 #[.val (.int x0)] [] := by first | (simp [entryFrame, mkF, argsToLocals, Value.category]; done) | rfl
theorem d1_0 : decode prog_9_method_6_code 0 = .ok (.iload_n 0, 1) := by decide +kernel
theorem d1_1 : decode prog_9_method_6_code 1 = .ok (.bipush 32, 2) := by decide +kernel
theorem d1_3 : decode prog_9_method_6_code 3 = .ok (.if_icmp .eq 9, 3) := by decide +kernel
theorem d1_12 : decode prog_9_method_6_code 12 = .ok (.iconst 1, 1) := by decide +kernel
theorem d1_13 : decode prog_9_method_6_code 13 = .ok (.goto 4, 3) := by decide +kernel
theorem d1_17 : decode prog_9_method_6_code 17 = .ok (.ireturn, 1) := by decide +kernel
theorem d1_6 : decode prog_9_method_6_code 6 = .ok (.iload_n 0, 1) := by decide +kernel
theorem d1_7 : decode prog_9_method_6_code 7 = .ok (.bipush 9, 2) := by decide +kernel
theorem d1_9 : decode prog_9_method_6_code 9 = .ok (.if_icmp .ne 7, 3) := by decide +kernel
theorem d1_16 : decode prog_9_method_6_code 16 = .ok (.iconst 0, 1) := by decide +kernel
theorem own_pn1 : plainName "com/example/datumbridge/datumbridge/cli/InputLinesIsBlankPinLaw" = true := by first | (simp [plainName, overriddenIn]; done) | decide +kernel
theorem own_ef0_I (m : MethodId) (x0 : Int32) : entryFrame m #[(.int x0)] maxLocals = mkF m 0 #[.val (.int x0), .unset, .unset] [] := by first | (simp [entryFrame, mkF, argsToLocals, Value.category, maxLocals]; done) | rfl
theorem own_pd0 : parseMethodDescriptor "(C)Z" = some ⟨[.char], some .boolean⟩ := by decide +kernel
def Q_rm_bl (Z : State) (u : Int32) (h0 : Heap) (n0 : Nat) (v : Option Value) (h : Heap) (L : List Loc) : Prop := v = some (.int (own_bl u)) ∧ Fr n0 L ∧ h = h0
set_option maxRecDepth 65536 in
set_option maxHeartbeats 40000000 in
theorem rm_bl (l : Launch) (Z : State) (a0 : Array Value) (hw : ∀ d ∈ tables_1, d.before a0 Z = true) (ws : List Jvm.Cond) (u : Int32) (h0 : Heap) (n0 : Nat) (Z0 : n0 ≤ h0.size) :
    MetFree l (⟨"com/example/datumbridge/datumbridge/cli/InputLines", "isBlank", "(C)Z"⟩ : MethodName) (head1 (Jvm.Cond.code (⟨"com/example/datumbridge/datumbridge/cli/InputLines", "isBlank", "(C)Z"⟩ : MethodName) prog_9_method_6_code 1 (some .boolean) :: ws) ({ frames := 0, cells := 0, slots := 0, locals := 0 } : Room)) (fun a U => a = #[(.int u)] ∧ Z.Warmed39 U.vm ∧ U.heap = h0) (fun _ _ _ _ _ => True) (fun _ U o U' => ∃ v L, o = .returned v ∧ Q_rm_bl Z u h0 n0 v U'.heap L ∧ FrameEnd U o U' L ({ frames := 0, cells := 0, slots := 0, locals := 0 } : Room).cells ({ frames := 0, cells := 0, slots := 0, locals := 0 } : Room).slots) := by
  refine MetFree.of_bodySF (plainFor_of_name own_pn0) hisR ?_
  intro p e s m args below meth c s₁ Bd hml0 hP hK
  obtain ⟨rfl, hZ, hh⟩ := hP
  have hx := Bd.exec
  have hby := Bd.bytes
  have hml : c.maxLocals = 1 := hml0
  have hown : s.vm.findClass "com/example/datumbridge/datumbridge/cli/InputLines" = some m.cls := findClass_of_methodNamed Bd.named
  have hnm := (name_of_methodNamed Bd.named Bd.method).1
  have X0 : Stand p l e ({ frames := 0, cells := 0, slots := 0, locals := 0 } : Room) s m #[(.int u)] below meth c s₁ [] 0 0 := Stand.of_body Bd
  have e0 : s₁.heap = h0 := by rw [← hh, Bd.state]; rfl
  have N0 := Fr.nil n0
  have st0 : own_Go p e below (s₁.setTop (mkF m 0 #[.val (.int u)] [])) (s₁.setTop (entryFrame m #[(.int u)] 1)) := fun t k => castTop (own_ef1_I m u) k
  have st1 : own_Go p e below (s₁.setTop (mkF m 3 #[.val (.int u)] [(.int (32 : Int32)), (.int u)])) (s₁.setTop (entryFrame m #[(.int u)] 1)) := fun t kt => st0 t (by
    show Steps p.tables e below (s₁.setTop (mkF m 0 #[.val (.int u)] [])) _
    refine XS.iloadN X0.here hx rfl (hb hby d1_0) rfl ?_
    show Steps p.tables e below (s₁.setTop (mkF m 1 #[.val (.int u)] [(.int u)])) _
    refine XS.bipush X0.here hx rfl (hb hby d1_1) ?_
    show Steps p.tables e below (s₁.setTop (mkF m 3 #[.val (.int u)] [(.int (32 : Int32)), (.int u)])) _
    exact kt)
  by_cases q1 : u = (32 : Int32)
  · have st2 : own_Go p e below (s₁.setTop (mkF m 17 #[.val (.int u)] [(.int (1 : Int32))])) (s₁.setTop (entryFrame m #[(.int u)] 1)) := fun t kt => st1 t (by
      show Steps p.tables e below (s₁.setTop (mkF m 3 #[.val (.int u)] [(.int (32 : Int32)), (.int u)])) _
      refine XS.icmpYes X0.here hx rfl (pc0 := 3) (pc' := 12) rfl (hb hby d1_3) rfl (teq q1).1 (by decide) (by decide) ?_
      show Steps p.tables e below (s₁.setTop (mkF m 12 #[.val (.int u)] [])) _
      refine XS.iconst X0.here hx rfl (hb hby d1_12) ?_
      show Steps p.tables e below (s₁.setTop (mkF m 13 #[.val (.int u)] [(.int (1 : Int32))])) _
      refine XS.goto X0.here hx rfl (pc0 := 13) (pc' := 17) rfl (hb hby d1_13) (by decide) (by decide) ?_
      show Steps p.tables e below (s₁.setTop (mkF m 17 #[.val (.int u)] [(.int (1 : Int32))])) _
      exact kt)
    obtain ⟨fs, hr, hrun, hended, hW, hsame⟩ := X0.leave (v := (some (.int (1 : Int32)))) (fun h => by rw [Bd.returns] at h; cases h)
    refine ⟨_, _, st2 _ ?_, hrun, hended, _, _, rfl, ?_, ⟨_, rfl⟩, hW, hsame.mono (by decide) (by decide)⟩
    · exact retN X0 hx (t := .boolean) Bd.returns (by simp) (hb hby d1_17) hr
    · show Q_rm_bl Z u h0 n0 _ s₁.heap _
      rw [e0]
      exact ⟨by simp [own_bl, q1], N0, rfl⟩
  · have st3 : own_Go p e below (s₁.setTop (mkF m 9 #[.val (.int u)] [(.int (9 : Int32)), (.int u)])) (s₁.setTop (entryFrame m #[(.int u)] 1)) := fun t kt => st1 t (by
      show Steps p.tables e below (s₁.setTop (mkF m 3 #[.val (.int u)] [(.int (32 : Int32)), (.int u)])) _
      refine XS.icmpNo X0.here hx rfl (hb hby d1_3) rfl (feq q1).1 ?_
      show Steps p.tables e below (s₁.setTop (mkF m 6 #[.val (.int u)] [])) _
      refine XS.iloadN X0.here hx rfl (hb hby d1_6) rfl ?_
      show Steps p.tables e below (s₁.setTop (mkF m 7 #[.val (.int u)] [(.int u)])) _
      refine XS.bipush X0.here hx rfl (hb hby d1_7) ?_
      show Steps p.tables e below (s₁.setTop (mkF m 9 #[.val (.int u)] [(.int (9 : Int32)), (.int u)])) _
      exact kt)
    by_cases q2 : u = (9 : Int32)
    · have st4 : own_Go p e below (s₁.setTop (mkF m 17 #[.val (.int u)] [(.int (1 : Int32))])) (s₁.setTop (entryFrame m #[(.int u)] 1)) := fun t kt => st3 t (by
        show Steps p.tables e below (s₁.setTop (mkF m 9 #[.val (.int u)] [(.int (9 : Int32)), (.int u)])) _
        refine XS.icmpNo X0.here hx rfl (hb hby d1_9) rfl (teq q2).2 ?_
        show Steps p.tables e below (s₁.setTop (mkF m 12 #[.val (.int u)] [])) _
        refine XS.iconst X0.here hx rfl (hb hby d1_12) ?_
        show Steps p.tables e below (s₁.setTop (mkF m 13 #[.val (.int u)] [(.int (1 : Int32))])) _
        refine XS.goto X0.here hx rfl (pc0 := 13) (pc' := 17) rfl (hb hby d1_13) (by decide) (by decide) ?_
        show Steps p.tables e below (s₁.setTop (mkF m 17 #[.val (.int u)] [(.int (1 : Int32))])) _
        exact kt)
      obtain ⟨fs, hr, hrun, hended, hW, hsame⟩ := X0.leave (v := (some (.int (1 : Int32)))) (fun h => by rw [Bd.returns] at h; cases h)
      refine ⟨_, _, st4 _ ?_, hrun, hended, _, _, rfl, ?_, ⟨_, rfl⟩, hW, hsame.mono (by decide) (by decide)⟩
      · exact retN X0 hx (t := .boolean) Bd.returns (by simp) (hb hby d1_17) hr
      · show Q_rm_bl Z u h0 n0 _ s₁.heap _
        rw [e0]
        exact ⟨by simp [own_bl, q1, q2], N0, rfl⟩
    · have st5 : own_Go p e below (s₁.setTop (mkF m 17 #[.val (.int u)] [(.int (0 : Int32))])) (s₁.setTop (entryFrame m #[(.int u)] 1)) := fun t kt => st3 t (by
        show Steps p.tables e below (s₁.setTop (mkF m 9 #[.val (.int u)] [(.int (9 : Int32)), (.int u)])) _
        refine XS.icmpYes X0.here hx rfl (pc0 := 9) (pc' := 16) rfl (hb hby d1_9) rfl (feq q2).2 (by decide) (by decide) ?_
        show Steps p.tables e below (s₁.setTop (mkF m 16 #[.val (.int u)] [])) _
        refine XS.iconst X0.here hx rfl (hb hby d1_16) ?_
        show Steps p.tables e below (s₁.setTop (mkF m 17 #[.val (.int u)] [(.int (0 : Int32))])) _
        exact kt)
      obtain ⟨fs, hr, hrun, hended, hW, hsame⟩ := X0.leave (v := (some (.int (0 : Int32)))) (fun h => by rw [Bd.returns] at h; cases h)
      refine ⟨_, _, st5 _ ?_, hrun, hended, _, _, rfl, ?_, ⟨_, rfl⟩, hW, hsame.mono (by decide) (by decide)⟩
      · exact retN X0 hx (t := .boolean) Bd.returns (by simp) (hb hby d1_17) hr
      · show Q_rm_bl Z u h0 n0 _ s₁.heap _
        rw [e0]
        exact ⟨by simp [own_bl, q1, q2], N0, rfl⟩
def Q_rm_law (Z : State) (ua : Int32) (h0 : Heap) (n0 : Nat) (v : Option Value) (h : Heap) (L : List Loc) : Prop := v = some (.int 1) ∧ Fr n0 L
set_option maxRecDepth 65536 in
set_option maxHeartbeats 40000000 in
theorem rm_law (l : Launch) (Z : State) (a0 : Array Value) (hw : ∀ d ∈ tables_1, d.before a0 Z = true) (ws : List Jvm.Cond) (ua : Int32) (h0 : Heap) (n0 : Nat) (Z0 : n0 ≤ h0.size) :
    MetFree l x (head1 (Jvm.Cond.code x code maxLocals ret :: ws) room_1) (fun a U => a = #[(.int ua)] ∧ Z.Warmed39 U.vm ∧ U.heap = h0) (fun _ _ _ _ _ => True) (fun _ U o U' => ∃ v L, o = .returned v ∧ Q_rm_law Z ua h0 n0 v U'.heap L ∧ FrameEnd U o U' L room_1.cells room_1.slots) := by
  refine MetFree.of_bodySF (plainFor_of_name own_pn1) hisR ?_
  intro p e s m args below meth c s₁ Bd hml0 hP hK
  obtain ⟨rfl, hZ, hh⟩ := hP
  have hx := Bd.exec
  have hby := Bd.bytes
  have hml : c.maxLocals = 3 := hml0
  have hown : s.vm.findClass "com/example/datumbridge/datumbridge/cli/InputLinesIsBlankPinLaw" = some m.cls := findClass_of_methodNamed Bd.named
  have hnm := (name_of_methodNamed Bd.named Bd.method).1
  have X0 : Stand p l e room_1 s m #[(.int ua)] below meth c s₁ [] 0 0 := Stand.of_body Bd
  have e0 : s₁.heap = h0 := by rw [← hh, Bd.state]; rfl
  have N0 := Fr.nil n0
  have st0 : own_Go p e below (s₁.setTop (mkF m 0 #[.val (.int ua), .unset, .unset] [])) (s₁.setTop (entryFrame m #[(.int ua)] maxLocals)) := fun t k => castTop (own_ef0_I m ua) k
  obtain ⟨c1, h_c1⟩ : ∃ z : Int32, z = ((ua &&& (65535 : Int32)).toUInt32.toUInt16.toUInt32.toInt32) := ⟨_, rfl⟩
  have st1 : own_Go p e below (s₁.setTop (mkF m 9 #[.val (.int ua), .val (.int c1), .unset] [(.int (9 : Int32)), (.int c1)])) (s₁.setTop (entryFrame m #[(.int ua)] maxLocals)) := fun t kt => st0 t (by
    show Steps p.tables e below (s₁.setTop (mkF m 0 #[.val (.int ua), .unset, .unset] [])) _
    refine XS.iloadN X0.here hx rfl (hb hby at_0) rfl ?_
    show Steps p.tables e below (s₁.setTop (mkF m 1 #[.val (.int ua), .unset, .unset] [(.int ua)])) _
    refine X0.ldcInt hx hown (mvT hZ (hw _ (List.mem_of_getElem? (i := 0) rfl))) (g := (mkF m 1 #[.val (.int ua), .unset, .unset] [(.int ua)])) rfl (hb hby at_1) _ ?_
    show Steps p.tables e below (s₁.setTop (mkF m 3 #[.val (.int ua), .unset, .unset] [(.int (65535 : Int32)), (.int ua)])) _
    refine XS.iand X0.here hx rfl (hb hby at_3) rfl ?_
    show Steps p.tables e below (s₁.setTop (mkF m 4 #[.val (.int ua), .unset, .unset] [(.int (ua &&& (65535 : Int32)))])) _
    refine XS.i2c X0.here hx rfl (hb hby at_4) rfl ?_
    show Steps p.tables e below (s₁.setTop (mkF m 5 #[.val (.int ua), .unset, .unset] [(.int ((ua &&& (65535 : Int32)).toUInt32.toUInt16.toUInt32.toInt32))])) _
    rw [← h_c1]
    show Steps p.tables e below (s₁.setTop (mkF m 5 #[.val (.int ua), .unset, .unset] [(.int c1)])) _
    refine XS.istoreN X0.here hx rfl (hb hby at_5) rfl (l' := #[.val (.int ua), .val (.int c1), .unset]) rfl ?_
    show Steps p.tables e below (s₁.setTop (mkF m 6 #[.val (.int ua), .val (.int c1), .unset] [])) _
    refine XS.iloadN X0.here hx rfl (hb hby at_6) rfl ?_
    show Steps p.tables e below (s₁.setTop (mkF m 7 #[.val (.int ua), .val (.int c1), .unset] [(.int c1)])) _
    refine XS.bipush X0.here hx rfl (hb hby at_7) ?_
    show Steps p.tables e below (s₁.setTop (mkF m 9 #[.val (.int ua), .val (.int c1), .unset] [(.int (9 : Int32)), (.int c1)])) _
    exact kt)
  by_cases q1 : c1 = (9 : Int32)
  · have st2 : own_Go p e below (s₁.setTop (mkF m 25 #[.val (.int ua), .val (.int c1), .val (.int (1 : Int32))] [(.int c1)])) (s₁.setTop (entryFrame m #[(.int ua)] maxLocals)) := fun t kt => st1 t (by
      show Steps p.tables e below (s₁.setTop (mkF m 9 #[.val (.int ua), .val (.int c1), .unset] [(.int (9 : Int32)), (.int c1)])) _
      refine XS.icmpYes X0.here hx rfl (pc0 := 9) (pc' := 18) rfl (hb hby at_9) rfl (teq q1).1 (by decide) (by decide) ?_
      show Steps p.tables e below (s₁.setTop (mkF m 18 #[.val (.int ua), .val (.int c1), .unset] [])) _
      refine XS.iconst X0.here hx rfl (hb hby at_18) ?_
      show Steps p.tables e below (s₁.setTop (mkF m 19 #[.val (.int ua), .val (.int c1), .unset] [(.int (1 : Int32))])) _
      refine XS.goto X0.here hx rfl (pc0 := 19) (pc' := 23) rfl (hb hby at_19) (by decide) (by decide) ?_
      show Steps p.tables e below (s₁.setTop (mkF m 23 #[.val (.int ua), .val (.int c1), .unset] [(.int (1 : Int32))])) _
      refine XS.istoreN X0.here hx rfl (hb hby at_23) rfl (l' := #[.val (.int ua), .val (.int c1), .val (.int (1 : Int32))]) rfl ?_
      show Steps p.tables e below (s₁.setTop (mkF m 24 #[.val (.int ua), .val (.int c1), .val (.int (1 : Int32))] [])) _
      refine XS.iloadN X0.here hx rfl (hb hby at_24) rfl ?_
      show Steps p.tables e below (s₁.setTop (mkF m 25 #[.val (.int ua), .val (.int c1), .val (.int (1 : Int32))] [(.int c1)])) _
      exact kt)
    obtain ⟨_, _, ⟨T3, L3, k3, n3⟩, -, X3, ⟨Lc3, hQ3, l3, y3, z3⟩, ls3⟩ := Jvm.LawKit.callS X0 hx (y := (⟨"com/example/datumbridge/datumbridge/cli/InputLines", "isBlank", "(C)Z"⟩ : MethodName)) hown (mvT hZ (hw _ (List.mem_of_getElem? (i := 1) rfl))) (mvT hZ (hw _ (List.mem_of_getElem? (i := 2) rfl))) (mvT hZ (hw _ (List.mem_of_getElem? (i := 3) rfl))) (mvT hZ (hw _ (List.mem_of_getElem? (i := 4) rfl))) (by decide) (backOf (W := 0) (rm_bl l Z a0 hw [] c1 h0 n0 Z0) hZ (hw _ (List.mem_of_getElem? (i := 4) rfl)) (hw _ (List.mem_of_getElem? (i := 3) rfl)) (by decide) (by decide)) (g := (mkF m 25 #[.val (.int ua), .val (.int c1), .val (.int (1 : Int32))] [(.int c1)])) rfl (by rw [hml]; rfl) (argsL := [(.int c1)]) (rest := []) (lenOf own_pd0 rfl) rfl (by show 2 * 0 + _ ≤ _; exact Nat.le_of_eq rfl) (hb hby at_25) (fun _ _ => ⟨rfl, e0, (by decide : 0 + 0 ≤ _), (by decide : 0 + 0 ≤ _)⟩)
    dsimp only [Pt.U, Pt.locs, Pt.cells, Pt.slots] at X3 l3 y3 z3 ls3 hQ3
    subst l3 y3 z3
    obtain ⟨rfl, Nq3, eq3⟩ := hQ3
    have N3 := Fr.app N0 Nq3
    have st4 : own_Go p e below (T3.setTop (mkF m 28 #[.val (.int ua), .val (.int c1), .val (.int (1 : Int32))] [(.int (own_bl c1))])) (s₁.setTop (entryFrame m #[(.int ua)] maxLocals)) := fun t kt => st2 t (ls3 t kt)
    have hc5 : (own_bl c1) = (1 : Int32) := by simp [own_bl, q1]
    have st6 : own_Go p e below (T3.setTop (mkF m 36 #[.val (.int ua), .val (.int c1), .val (.int (1 : Int32))] [(.int (32 : Int32))])) (s₁.setTop (entryFrame m #[(.int ua)] maxLocals)) := fun t kt => st4 t (by
      show Steps p.tables e below (T3.setTop (mkF m 28 #[.val (.int ua), .val (.int c1), .val (.int (1 : Int32))] [(.int (own_bl c1))])) _
      refine XS.iloadN X3.here hx rfl (hb hby at_28) rfl ?_
      show Steps p.tables e below (T3.setTop (mkF m 29 #[.val (.int ua), .val (.int c1), .val (.int (1 : Int32))] [(.int (1 : Int32)), (.int (own_bl c1))])) _
      refine XS.icmpYes X3.here hx rfl (pc0 := 29) (pc' := 34) rfl (hb hby at_29) rfl (teq hc5).1 (by decide) (by decide) ?_
      show Steps p.tables e below (T3.setTop (mkF m 34 #[.val (.int ua), .val (.int c1), .val (.int (1 : Int32))] [])) _
      refine XS.bipush X3.here hx rfl (hb hby at_34) ?_
      show Steps p.tables e below (T3.setTop (mkF m 36 #[.val (.int ua), .val (.int c1), .val (.int (1 : Int32))] [(.int (32 : Int32))])) _
      exact kt)
    obtain ⟨_, _, ⟨T7, L7, k7, n7⟩, -, X7, ⟨Lc7, hQ7, l7, y7, z7⟩, ls7⟩ := Jvm.LawKit.callS X3 hx (y := (⟨"com/example/datumbridge/datumbridge/cli/InputLines", "isBlank", "(C)Z"⟩ : MethodName)) hown (mvT hZ (hw _ (List.mem_of_getElem? (i := 1) rfl))) (mvT hZ (hw _ (List.mem_of_getElem? (i := 2) rfl))) (mvT hZ (hw _ (List.mem_of_getElem? (i := 3) rfl))) (mvT hZ (hw _ (List.mem_of_getElem? (i := 4) rfl))) (by decide) (backOf (W := 0) (rm_bl l Z a0 hw [] ((32 : Int32)) h0 n0 Z0) hZ (hw _ (List.mem_of_getElem? (i := 4) rfl)) (hw _ (List.mem_of_getElem? (i := 3) rfl)) (by decide) (by decide)) (g := (mkF m 36 #[.val (.int ua), .val (.int c1), .val (.int (1 : Int32))] [(.int (32 : Int32))])) rfl (by rw [hml]; rfl) (argsL := [(.int (32 : Int32))]) (rest := []) (lenOf own_pd0 rfl) rfl (by show 2 * 0 + _ ≤ _; exact Nat.le_of_eq rfl) (hb hby at_36) (fun _ _ => ⟨rfl, eq3, (by decide : 0 + 0 ≤ _), (by decide : 0 + 0 ≤ _)⟩)
    dsimp only [Pt.U, Pt.locs, Pt.cells, Pt.slots] at X7 l7 y7 z7 ls7 hQ7
    subst l7 y7 z7
    obtain ⟨rfl, Nq7, eq7⟩ := hQ7
    have N7 := Fr.app N3 Nq7
    have st8 : own_Go p e below (T7.setTop (mkF m 39 #[.val (.int ua), .val (.int c1), .val (.int (1 : Int32))] [(.int (own_bl (32 : Int32)))])) (s₁.setTop (entryFrame m #[(.int ua)] maxLocals)) := fun t kt => st6 t (ls7 t kt)
    have hc9 : ¬ ((own_bl (32 : Int32)) = (0 : Int32)) := by decide
    have st10 : own_Go p e below (T7.setTop (mkF m 44 #[.val (.int ua), .val (.int c1), .val (.int (1 : Int32))] [(.int (9 : Int32))])) (s₁.setTop (entryFrame m #[(.int ua)] maxLocals)) := fun t kt => st8 t (by
      show Steps p.tables e below (T7.setTop (mkF m 39 #[.val (.int ua), .val (.int c1), .val (.int (1 : Int32))] [(.int (own_bl (32 : Int32)))])) _
      refine XS.ifNo X7.here hx rfl (hb hby at_39) rfl ((if0 _ _).trans (feq hc9).1) ?_
      show Steps p.tables e below (T7.setTop (mkF m 42 #[.val (.int ua), .val (.int c1), .val (.int (1 : Int32))] [])) _
      refine XS.bipush X7.here hx rfl (hb hby at_42) ?_
      show Steps p.tables e below (T7.setTop (mkF m 44 #[.val (.int ua), .val (.int c1), .val (.int (1 : Int32))] [(.int (9 : Int32))])) _
      exact kt)
    obtain ⟨_, _, ⟨T11, L11, k11, n11⟩, -, X11, ⟨Lc11, hQ11, l11, y11, z11⟩, ls11⟩ := Jvm.LawKit.callS X7 hx (y := (⟨"com/example/datumbridge/datumbridge/cli/InputLines", "isBlank", "(C)Z"⟩ : MethodName)) hown (mvT hZ (hw _ (List.mem_of_getElem? (i := 1) rfl))) (mvT hZ (hw _ (List.mem_of_getElem? (i := 2) rfl))) (mvT hZ (hw _ (List.mem_of_getElem? (i := 3) rfl))) (mvT hZ (hw _ (List.mem_of_getElem? (i := 4) rfl))) (by decide) (backOf (W := 0) (rm_bl l Z a0 hw [] ((9 : Int32)) h0 n0 Z0) hZ (hw _ (List.mem_of_getElem? (i := 4) rfl)) (hw _ (List.mem_of_getElem? (i := 3) rfl)) (by decide) (by decide)) (g := (mkF m 44 #[.val (.int ua), .val (.int c1), .val (.int (1 : Int32))] [(.int (9 : Int32))])) rfl (by rw [hml]; rfl) (argsL := [(.int (9 : Int32))]) (rest := []) (lenOf own_pd0 rfl) rfl (by show 2 * 0 + _ ≤ _; exact Nat.le_of_eq rfl) (hb hby at_44) (fun _ _ => ⟨rfl, eq7, (by decide : 0 + 0 ≤ _), (by decide : 0 + 0 ≤ _)⟩)
    dsimp only [Pt.U, Pt.locs, Pt.cells, Pt.slots] at X11 l11 y11 z11 ls11 hQ11
    subst l11 y11 z11
    obtain ⟨rfl, Nq11, eq11⟩ := hQ11
    have N11 := Fr.app N7 Nq11
    have st12 : own_Go p e below (T11.setTop (mkF m 47 #[.val (.int ua), .val (.int c1), .val (.int (1 : Int32))] [(.int (own_bl (9 : Int32)))])) (s₁.setTop (entryFrame m #[(.int ua)] maxLocals)) := fun t kt => st10 t (ls11 t kt)
    have hc13 : ¬ ((own_bl (9 : Int32)) = (0 : Int32)) := by decide
    have st14 : own_Go p e below (T11.setTop (mkF m 52 #[.val (.int ua), .val (.int c1), .val (.int (1 : Int32))] [(.int (10 : Int32))])) (s₁.setTop (entryFrame m #[(.int ua)] maxLocals)) := fun t kt => st12 t (by
      show Steps p.tables e below (T11.setTop (mkF m 47 #[.val (.int ua), .val (.int c1), .val (.int (1 : Int32))] [(.int (own_bl (9 : Int32)))])) _
      refine XS.ifNo X11.here hx rfl (hb hby at_47) rfl ((if0 _ _).trans (feq hc13).1) ?_
      show Steps p.tables e below (T11.setTop (mkF m 50 #[.val (.int ua), .val (.int c1), .val (.int (1 : Int32))] [])) _
      refine XS.bipush X11.here hx rfl (hb hby at_50) ?_
      show Steps p.tables e below (T11.setTop (mkF m 52 #[.val (.int ua), .val (.int c1), .val (.int (1 : Int32))] [(.int (10 : Int32))])) _
      exact kt)
    obtain ⟨_, _, ⟨T15, L15, k15, n15⟩, -, X15, ⟨Lc15, hQ15, l15, y15, z15⟩, ls15⟩ := Jvm.LawKit.callS X11 hx (y := (⟨"com/example/datumbridge/datumbridge/cli/InputLines", "isBlank", "(C)Z"⟩ : MethodName)) hown (mvT hZ (hw _ (List.mem_of_getElem? (i := 1) rfl))) (mvT hZ (hw _ (List.mem_of_getElem? (i := 2) rfl))) (mvT hZ (hw _ (List.mem_of_getElem? (i := 3) rfl))) (mvT hZ (hw _ (List.mem_of_getElem? (i := 4) rfl))) (by decide) (backOf (W := 0) (rm_bl l Z a0 hw [] ((10 : Int32)) h0 n0 Z0) hZ (hw _ (List.mem_of_getElem? (i := 4) rfl)) (hw _ (List.mem_of_getElem? (i := 3) rfl)) (by decide) (by decide)) (g := (mkF m 52 #[.val (.int ua), .val (.int c1), .val (.int (1 : Int32))] [(.int (10 : Int32))])) rfl (by rw [hml]; rfl) (argsL := [(.int (10 : Int32))]) (rest := []) (lenOf own_pd0 rfl) rfl (by show 2 * 0 + _ ≤ _; exact Nat.le_of_eq rfl) (hb hby at_52) (fun _ _ => ⟨rfl, eq11, (by decide : 0 + 0 ≤ _), (by decide : 0 + 0 ≤ _)⟩)
    dsimp only [Pt.U, Pt.locs, Pt.cells, Pt.slots] at X15 l15 y15 z15 ls15 hQ15
    subst l15 y15 z15
    obtain ⟨rfl, Nq15, eq15⟩ := hQ15
    have N15 := Fr.app N11 Nq15
    have st16 : own_Go p e below (T15.setTop (mkF m 55 #[.val (.int ua), .val (.int c1), .val (.int (1 : Int32))] [(.int (own_bl (10 : Int32)))])) (s₁.setTop (entryFrame m #[(.int ua)] maxLocals)) := fun t kt => st14 t (ls15 t kt)
    have hc17 : (own_bl (10 : Int32)) = (0 : Int32) := by decide
    have st18 : own_Go p e below (T15.setTop (mkF m 60 #[.val (.int ua), .val (.int c1), .val (.int (1 : Int32))] [(.int (13 : Int32))])) (s₁.setTop (entryFrame m #[(.int ua)] maxLocals)) := fun t kt => st16 t (by
      show Steps p.tables e below (T15.setTop (mkF m 55 #[.val (.int ua), .val (.int c1), .val (.int (1 : Int32))] [(.int (own_bl (10 : Int32)))])) _
      refine XS.ifNo X15.here hx rfl (hb hby at_55) rfl ((if0 _ _).trans (teq hc17).2) ?_
      show Steps p.tables e below (T15.setTop (mkF m 58 #[.val (.int ua), .val (.int c1), .val (.int (1 : Int32))] [])) _
      refine XS.bipush X15.here hx rfl (hb hby at_58) ?_
      show Steps p.tables e below (T15.setTop (mkF m 60 #[.val (.int ua), .val (.int c1), .val (.int (1 : Int32))] [(.int (13 : Int32))])) _
      exact kt)
    obtain ⟨_, _, ⟨T19, L19, k19, n19⟩, -, X19, ⟨Lc19, hQ19, l19, y19, z19⟩, ls19⟩ := Jvm.LawKit.callS X15 hx (y := (⟨"com/example/datumbridge/datumbridge/cli/InputLines", "isBlank", "(C)Z"⟩ : MethodName)) hown (mvT hZ (hw _ (List.mem_of_getElem? (i := 1) rfl))) (mvT hZ (hw _ (List.mem_of_getElem? (i := 2) rfl))) (mvT hZ (hw _ (List.mem_of_getElem? (i := 3) rfl))) (mvT hZ (hw _ (List.mem_of_getElem? (i := 4) rfl))) (by decide) (backOf (W := 0) (rm_bl l Z a0 hw [] ((13 : Int32)) h0 n0 Z0) hZ (hw _ (List.mem_of_getElem? (i := 4) rfl)) (hw _ (List.mem_of_getElem? (i := 3) rfl)) (by decide) (by decide)) (g := (mkF m 60 #[.val (.int ua), .val (.int c1), .val (.int (1 : Int32))] [(.int (13 : Int32))])) rfl (by rw [hml]; rfl) (argsL := [(.int (13 : Int32))]) (rest := []) (lenOf own_pd0 rfl) rfl (by show 2 * 0 + _ ≤ _; exact Nat.le_of_eq rfl) (hb hby at_60) (fun _ _ => ⟨rfl, eq15, (by decide : 0 + 0 ≤ _), (by decide : 0 + 0 ≤ _)⟩)
    dsimp only [Pt.U, Pt.locs, Pt.cells, Pt.slots] at X19 l19 y19 z19 ls19 hQ19
    subst l19 y19 z19
    obtain ⟨rfl, Nq19, eq19⟩ := hQ19
    have N19 := Fr.app N15 Nq19
    have st20 : own_Go p e below (T19.setTop (mkF m 63 #[.val (.int ua), .val (.int c1), .val (.int (1 : Int32))] [(.int (own_bl (13 : Int32)))])) (s₁.setTop (entryFrame m #[(.int ua)] maxLocals)) := fun t kt => st18 t (ls19 t kt)
    have hc21 : (own_bl (13 : Int32)) = (0 : Int32) := by decide
    have st22 : own_Go p e below (T19.setTop (mkF m 68 #[.val (.int ua), .val (.int c1), .val (.int (1 : Int32))] [(.int (11 : Int32))])) (s₁.setTop (entryFrame m #[(.int ua)] maxLocals)) := fun t kt => st20 t (by
      show Steps p.tables e below (T19.setTop (mkF m 63 #[.val (.int ua), .val (.int c1), .val (.int (1 : Int32))] [(.int (own_bl (13 : Int32)))])) _
      refine XS.ifNo X19.here hx rfl (hb hby at_63) rfl ((if0 _ _).trans (teq hc21).2) ?_
      show Steps p.tables e below (T19.setTop (mkF m 66 #[.val (.int ua), .val (.int c1), .val (.int (1 : Int32))] [])) _
      refine XS.bipush X19.here hx rfl (hb hby at_66) ?_
      show Steps p.tables e below (T19.setTop (mkF m 68 #[.val (.int ua), .val (.int c1), .val (.int (1 : Int32))] [(.int (11 : Int32))])) _
      exact kt)
    obtain ⟨_, _, ⟨T23, L23, k23, n23⟩, -, X23, ⟨Lc23, hQ23, l23, y23, z23⟩, ls23⟩ := Jvm.LawKit.callS X19 hx (y := (⟨"com/example/datumbridge/datumbridge/cli/InputLines", "isBlank", "(C)Z"⟩ : MethodName)) hown (mvT hZ (hw _ (List.mem_of_getElem? (i := 1) rfl))) (mvT hZ (hw _ (List.mem_of_getElem? (i := 2) rfl))) (mvT hZ (hw _ (List.mem_of_getElem? (i := 3) rfl))) (mvT hZ (hw _ (List.mem_of_getElem? (i := 4) rfl))) (by decide) (backOf (W := 0) (rm_bl l Z a0 hw [] ((11 : Int32)) h0 n0 Z0) hZ (hw _ (List.mem_of_getElem? (i := 4) rfl)) (hw _ (List.mem_of_getElem? (i := 3) rfl)) (by decide) (by decide)) (g := (mkF m 68 #[.val (.int ua), .val (.int c1), .val (.int (1 : Int32))] [(.int (11 : Int32))])) rfl (by rw [hml]; rfl) (argsL := [(.int (11 : Int32))]) (rest := []) (lenOf own_pd0 rfl) rfl (by show 2 * 0 + _ ≤ _; exact Nat.le_of_eq rfl) (hb hby at_68) (fun _ _ => ⟨rfl, eq19, (by decide : 0 + 0 ≤ _), (by decide : 0 + 0 ≤ _)⟩)
    dsimp only [Pt.U, Pt.locs, Pt.cells, Pt.slots] at X23 l23 y23 z23 ls23 hQ23
    subst l23 y23 z23
    obtain ⟨rfl, Nq23, eq23⟩ := hQ23
    have N23 := Fr.app N19 Nq23
    have st24 : own_Go p e below (T23.setTop (mkF m 71 #[.val (.int ua), .val (.int c1), .val (.int (1 : Int32))] [(.int (own_bl (11 : Int32)))])) (s₁.setTop (entryFrame m #[(.int ua)] maxLocals)) := fun t kt => st22 t (ls23 t kt)
    have hc25 : (own_bl (11 : Int32)) = (0 : Int32) := by decide
    have st26 : own_Go p e below (T23.setTop (mkF m 77 #[.val (.int ua), .val (.int c1), .val (.int (1 : Int32))] [(.int (160 : Int32))])) (s₁.setTop (entryFrame m #[(.int ua)] maxLocals)) := fun t kt => st24 t (by
      show Steps p.tables e below (T23.setTop (mkF m 71 #[.val (.int ua), .val (.int c1), .val (.int (1 : Int32))] [(.int (own_bl (11 : Int32)))])) _
      refine XS.ifNo X23.here hx rfl (hb hby at_71) rfl ((if0 _ _).trans (teq hc25).2) ?_
      show Steps p.tables e below (T23.setTop (mkF m 74 #[.val (.int ua), .val (.int c1), .val (.int (1 : Int32))] [])) _
      refine XS.sipush X23.here hx rfl (hb hby at_74) ?_
      show Steps p.tables e below (T23.setTop (mkF m 77 #[.val (.int ua), .val (.int c1), .val (.int (1 : Int32))] [(.int (160 : Int32))])) _
      exact kt)
    obtain ⟨_, _, ⟨T27, L27, k27, n27⟩, -, X27, ⟨Lc27, hQ27, l27, y27, z27⟩, ls27⟩ := Jvm.LawKit.callS X23 hx (y := (⟨"com/example/datumbridge/datumbridge/cli/InputLines", "isBlank", "(C)Z"⟩ : MethodName)) hown (mvT hZ (hw _ (List.mem_of_getElem? (i := 1) rfl))) (mvT hZ (hw _ (List.mem_of_getElem? (i := 2) rfl))) (mvT hZ (hw _ (List.mem_of_getElem? (i := 3) rfl))) (mvT hZ (hw _ (List.mem_of_getElem? (i := 4) rfl))) (by decide) (backOf (W := 0) (rm_bl l Z a0 hw [] ((160 : Int32)) h0 n0 Z0) hZ (hw _ (List.mem_of_getElem? (i := 4) rfl)) (hw _ (List.mem_of_getElem? (i := 3) rfl)) (by decide) (by decide)) (g := (mkF m 77 #[.val (.int ua), .val (.int c1), .val (.int (1 : Int32))] [(.int (160 : Int32))])) rfl (by rw [hml]; rfl) (argsL := [(.int (160 : Int32))]) (rest := []) (lenOf own_pd0 rfl) rfl (by show 2 * 0 + _ ≤ _; exact Nat.le_of_eq rfl) (hb hby at_77) (fun _ _ => ⟨rfl, eq23, (by decide : 0 + 0 ≤ _), (by decide : 0 + 0 ≤ _)⟩)
    dsimp only [Pt.U, Pt.locs, Pt.cells, Pt.slots] at X27 l27 y27 z27 ls27 hQ27
    subst l27 y27 z27
    obtain ⟨rfl, Nq27, eq27⟩ := hQ27
    have N27 := Fr.app N23 Nq27
    have st28 : own_Go p e below (T27.setTop (mkF m 80 #[.val (.int ua), .val (.int c1), .val (.int (1 : Int32))] [(.int (own_bl (160 : Int32)))])) (s₁.setTop (entryFrame m #[(.int ua)] maxLocals)) := fun t kt => st26 t (ls27 t kt)
    have hc29 : (own_bl (160 : Int32)) = (0 : Int32) := by decide
    have st30 : own_Go p e below (T27.setTop (mkF m 88 #[.val (.int ua), .val (.int c1), .val (.int (1 : Int32))] [(.int (1 : Int32))])) (s₁.setTop (entryFrame m #[(.int ua)] maxLocals)) := fun t kt => st28 t (by
      show Steps p.tables e below (T27.setTop (mkF m 80 #[.val (.int ua), .val (.int c1), .val (.int (1 : Int32))] [(.int (own_bl (160 : Int32)))])) _
      refine XS.ifNo X27.here hx rfl (hb hby at_80) rfl ((if0 _ _).trans (teq hc29).2) ?_
      show Steps p.tables e below (T27.setTop (mkF m 83 #[.val (.int ua), .val (.int c1), .val (.int (1 : Int32))] [])) _
      refine XS.iconst X27.here hx rfl (hb hby at_83) ?_
      show Steps p.tables e below (T27.setTop (mkF m 84 #[.val (.int ua), .val (.int c1), .val (.int (1 : Int32))] [(.int (1 : Int32))])) _
      refine XS.goto X27.here hx rfl (pc0 := 84) (pc' := 88) rfl (hb hby at_84) (by decide) (by decide) ?_
      show Steps p.tables e below (T27.setTop (mkF m 88 #[.val (.int ua), .val (.int c1), .val (.int (1 : Int32))] [(.int (1 : Int32))])) _
      exact kt)
    obtain ⟨fs, hr, hrun, hended, hW, hsame⟩ := X27.leave (v := (some (.int (1 : Int32)))) (fun h => by rw [Bd.returns] at h; cases h)
    refine ⟨_, _, st30 _ ?_, hrun, hended, _, _, rfl, ?_, ⟨_, rfl⟩, hW, hsame.mono (by decide) (by decide)⟩
    · exact retN X27 hx (t := .boolean) Bd.returns (by simp) (hb hby at_88) hr
    · show Q_rm_law Z ua h0 n0 _ T27.heap _
      rw [eq27]
      exact ⟨rfl, N27⟩
  · have st31 : own_Go p e below (s₁.setTop (mkF m 15 #[.val (.int ua), .val (.int c1), .unset] [(.int (32 : Int32)), (.int c1)])) (s₁.setTop (entryFrame m #[(.int ua)] maxLocals)) := fun t kt => st1 t (by
      show Steps p.tables e below (s₁.setTop (mkF m 9 #[.val (.int ua), .val (.int c1), .unset] [(.int (9 : Int32)), (.int c1)])) _
      refine XS.icmpNo X0.here hx rfl (hb hby at_9) rfl (feq q1).1 ?_
      show Steps p.tables e below (s₁.setTop (mkF m 12 #[.val (.int ua), .val (.int c1), .unset] [])) _
      refine XS.iloadN X0.here hx rfl (hb hby at_12) rfl ?_
      show Steps p.tables e below (s₁.setTop (mkF m 13 #[.val (.int ua), .val (.int c1), .unset] [(.int c1)])) _
      refine XS.bipush X0.here hx rfl (hb hby at_13) ?_
      show Steps p.tables e below (s₁.setTop (mkF m 15 #[.val (.int ua), .val (.int c1), .unset] [(.int (32 : Int32)), (.int c1)])) _
      exact kt)
    by_cases q2 : c1 = (32 : Int32)
    · have st32 : own_Go p e below (s₁.setTop (mkF m 25 #[.val (.int ua), .val (.int c1), .val (.int (1 : Int32))] [(.int c1)])) (s₁.setTop (entryFrame m #[(.int ua)] maxLocals)) := fun t kt => st31 t (by
        show Steps p.tables e below (s₁.setTop (mkF m 15 #[.val (.int ua), .val (.int c1), .unset] [(.int (32 : Int32)), (.int c1)])) _
        refine XS.icmpNo X0.here hx rfl (hb hby at_15) rfl (teq q2).2 ?_
        show Steps p.tables e below (s₁.setTop (mkF m 18 #[.val (.int ua), .val (.int c1), .unset] [])) _
        refine XS.iconst X0.here hx rfl (hb hby at_18) ?_
        show Steps p.tables e below (s₁.setTop (mkF m 19 #[.val (.int ua), .val (.int c1), .unset] [(.int (1 : Int32))])) _
        refine XS.goto X0.here hx rfl (pc0 := 19) (pc' := 23) rfl (hb hby at_19) (by decide) (by decide) ?_
        show Steps p.tables e below (s₁.setTop (mkF m 23 #[.val (.int ua), .val (.int c1), .unset] [(.int (1 : Int32))])) _
        refine XS.istoreN X0.here hx rfl (hb hby at_23) rfl (l' := #[.val (.int ua), .val (.int c1), .val (.int (1 : Int32))]) rfl ?_
        show Steps p.tables e below (s₁.setTop (mkF m 24 #[.val (.int ua), .val (.int c1), .val (.int (1 : Int32))] [])) _
        refine XS.iloadN X0.here hx rfl (hb hby at_24) rfl ?_
        show Steps p.tables e below (s₁.setTop (mkF m 25 #[.val (.int ua), .val (.int c1), .val (.int (1 : Int32))] [(.int c1)])) _
        exact kt)
      obtain ⟨_, _, ⟨T33, L33, k33, n33⟩, -, X33, ⟨Lc33, hQ33, l33, y33, z33⟩, ls33⟩ := Jvm.LawKit.callS X0 hx (y := (⟨"com/example/datumbridge/datumbridge/cli/InputLines", "isBlank", "(C)Z"⟩ : MethodName)) hown (mvT hZ (hw _ (List.mem_of_getElem? (i := 1) rfl))) (mvT hZ (hw _ (List.mem_of_getElem? (i := 2) rfl))) (mvT hZ (hw _ (List.mem_of_getElem? (i := 3) rfl))) (mvT hZ (hw _ (List.mem_of_getElem? (i := 4) rfl))) (by decide) (backOf (W := 0) (rm_bl l Z a0 hw [] c1 h0 n0 Z0) hZ (hw _ (List.mem_of_getElem? (i := 4) rfl)) (hw _ (List.mem_of_getElem? (i := 3) rfl)) (by decide) (by decide)) (g := (mkF m 25 #[.val (.int ua), .val (.int c1), .val (.int (1 : Int32))] [(.int c1)])) rfl (by rw [hml]; rfl) (argsL := [(.int c1)]) (rest := []) (lenOf own_pd0 rfl) rfl (by show 2 * 0 + _ ≤ _; exact Nat.le_of_eq rfl) (hb hby at_25) (fun _ _ => ⟨rfl, e0, (by decide : 0 + 0 ≤ _), (by decide : 0 + 0 ≤ _)⟩)
      dsimp only [Pt.U, Pt.locs, Pt.cells, Pt.slots] at X33 l33 y33 z33 ls33 hQ33
      subst l33 y33 z33
      obtain ⟨rfl, Nq33, eq33⟩ := hQ33
      have N33 := Fr.app N0 Nq33
      have st34 : own_Go p e below (T33.setTop (mkF m 28 #[.val (.int ua), .val (.int c1), .val (.int (1 : Int32))] [(.int (own_bl c1))])) (s₁.setTop (entryFrame m #[(.int ua)] maxLocals)) := fun t kt => st32 t (ls33 t kt)
      have hc35 : (own_bl c1) = (1 : Int32) := by simp [own_bl, q1, q2]
      have st36 : own_Go p e below (T33.setTop (mkF m 36 #[.val (.int ua), .val (.int c1), .val (.int (1 : Int32))] [(.int (32 : Int32))])) (s₁.setTop (entryFrame m #[(.int ua)] maxLocals)) := fun t kt => st34 t (by
        show Steps p.tables e below (T33.setTop (mkF m 28 #[.val (.int ua), .val (.int c1), .val (.int (1 : Int32))] [(.int (own_bl c1))])) _
        refine XS.iloadN X33.here hx rfl (hb hby at_28) rfl ?_
        show Steps p.tables e below (T33.setTop (mkF m 29 #[.val (.int ua), .val (.int c1), .val (.int (1 : Int32))] [(.int (1 : Int32)), (.int (own_bl c1))])) _
        refine XS.icmpYes X33.here hx rfl (pc0 := 29) (pc' := 34) rfl (hb hby at_29) rfl (teq hc35).1 (by decide) (by decide) ?_
        show Steps p.tables e below (T33.setTop (mkF m 34 #[.val (.int ua), .val (.int c1), .val (.int (1 : Int32))] [])) _
        refine XS.bipush X33.here hx rfl (hb hby at_34) ?_
        show Steps p.tables e below (T33.setTop (mkF m 36 #[.val (.int ua), .val (.int c1), .val (.int (1 : Int32))] [(.int (32 : Int32))])) _
        exact kt)
      obtain ⟨_, _, ⟨T37, L37, k37, n37⟩, -, X37, ⟨Lc37, hQ37, l37, y37, z37⟩, ls37⟩ := Jvm.LawKit.callS X33 hx (y := (⟨"com/example/datumbridge/datumbridge/cli/InputLines", "isBlank", "(C)Z"⟩ : MethodName)) hown (mvT hZ (hw _ (List.mem_of_getElem? (i := 1) rfl))) (mvT hZ (hw _ (List.mem_of_getElem? (i := 2) rfl))) (mvT hZ (hw _ (List.mem_of_getElem? (i := 3) rfl))) (mvT hZ (hw _ (List.mem_of_getElem? (i := 4) rfl))) (by decide) (backOf (W := 0) (rm_bl l Z a0 hw [] ((32 : Int32)) h0 n0 Z0) hZ (hw _ (List.mem_of_getElem? (i := 4) rfl)) (hw _ (List.mem_of_getElem? (i := 3) rfl)) (by decide) (by decide)) (g := (mkF m 36 #[.val (.int ua), .val (.int c1), .val (.int (1 : Int32))] [(.int (32 : Int32))])) rfl (by rw [hml]; rfl) (argsL := [(.int (32 : Int32))]) (rest := []) (lenOf own_pd0 rfl) rfl (by show 2 * 0 + _ ≤ _; exact Nat.le_of_eq rfl) (hb hby at_36) (fun _ _ => ⟨rfl, eq33, (by decide : 0 + 0 ≤ _), (by decide : 0 + 0 ≤ _)⟩)
      dsimp only [Pt.U, Pt.locs, Pt.cells, Pt.slots] at X37 l37 y37 z37 ls37 hQ37
      subst l37 y37 z37
      obtain ⟨rfl, Nq37, eq37⟩ := hQ37
      have N37 := Fr.app N33 Nq37
      have st38 : own_Go p e below (T37.setTop (mkF m 39 #[.val (.int ua), .val (.int c1), .val (.int (1 : Int32))] [(.int (own_bl (32 : Int32)))])) (s₁.setTop (entryFrame m #[(.int ua)] maxLocals)) := fun t kt => st36 t (ls37 t kt)
      have hc39 : ¬ ((own_bl (32 : Int32)) = (0 : Int32)) := by decide
      have st40 : own_Go p e below (T37.setTop (mkF m 44 #[.val (.int ua), .val (.int c1), .val (.int (1 : Int32))] [(.int (9 : Int32))])) (s₁.setTop (entryFrame m #[(.int ua)] maxLocals)) := fun t kt => st38 t (by
        show Steps p.tables e below (T37.setTop (mkF m 39 #[.val (.int ua), .val (.int c1), .val (.int (1 : Int32))] [(.int (own_bl (32 : Int32)))])) _
        refine XS.ifNo X37.here hx rfl (hb hby at_39) rfl ((if0 _ _).trans (feq hc39).1) ?_
        show Steps p.tables e below (T37.setTop (mkF m 42 #[.val (.int ua), .val (.int c1), .val (.int (1 : Int32))] [])) _
        refine XS.bipush X37.here hx rfl (hb hby at_42) ?_
        show Steps p.tables e below (T37.setTop (mkF m 44 #[.val (.int ua), .val (.int c1), .val (.int (1 : Int32))] [(.int (9 : Int32))])) _
        exact kt)
      obtain ⟨_, _, ⟨T41, L41, k41, n41⟩, -, X41, ⟨Lc41, hQ41, l41, y41, z41⟩, ls41⟩ := Jvm.LawKit.callS X37 hx (y := (⟨"com/example/datumbridge/datumbridge/cli/InputLines", "isBlank", "(C)Z"⟩ : MethodName)) hown (mvT hZ (hw _ (List.mem_of_getElem? (i := 1) rfl))) (mvT hZ (hw _ (List.mem_of_getElem? (i := 2) rfl))) (mvT hZ (hw _ (List.mem_of_getElem? (i := 3) rfl))) (mvT hZ (hw _ (List.mem_of_getElem? (i := 4) rfl))) (by decide) (backOf (W := 0) (rm_bl l Z a0 hw [] ((9 : Int32)) h0 n0 Z0) hZ (hw _ (List.mem_of_getElem? (i := 4) rfl)) (hw _ (List.mem_of_getElem? (i := 3) rfl)) (by decide) (by decide)) (g := (mkF m 44 #[.val (.int ua), .val (.int c1), .val (.int (1 : Int32))] [(.int (9 : Int32))])) rfl (by rw [hml]; rfl) (argsL := [(.int (9 : Int32))]) (rest := []) (lenOf own_pd0 rfl) rfl (by show 2 * 0 + _ ≤ _; exact Nat.le_of_eq rfl) (hb hby at_44) (fun _ _ => ⟨rfl, eq37, (by decide : 0 + 0 ≤ _), (by decide : 0 + 0 ≤ _)⟩)
      dsimp only [Pt.U, Pt.locs, Pt.cells, Pt.slots] at X41 l41 y41 z41 ls41 hQ41
      subst l41 y41 z41
      obtain ⟨rfl, Nq41, eq41⟩ := hQ41
      have N41 := Fr.app N37 Nq41
      have st42 : own_Go p e below (T41.setTop (mkF m 47 #[.val (.int ua), .val (.int c1), .val (.int (1 : Int32))] [(.int (own_bl (9 : Int32)))])) (s₁.setTop (entryFrame m #[(.int ua)] maxLocals)) := fun t kt => st40 t (ls41 t kt)
      have hc43 : ¬ ((own_bl (9 : Int32)) = (0 : Int32)) := by decide
      have st44 : own_Go p e below (T41.setTop (mkF m 52 #[.val (.int ua), .val (.int c1), .val (.int (1 : Int32))] [(.int (10 : Int32))])) (s₁.setTop (entryFrame m #[(.int ua)] maxLocals)) := fun t kt => st42 t (by
        show Steps p.tables e below (T41.setTop (mkF m 47 #[.val (.int ua), .val (.int c1), .val (.int (1 : Int32))] [(.int (own_bl (9 : Int32)))])) _
        refine XS.ifNo X41.here hx rfl (hb hby at_47) rfl ((if0 _ _).trans (feq hc43).1) ?_
        show Steps p.tables e below (T41.setTop (mkF m 50 #[.val (.int ua), .val (.int c1), .val (.int (1 : Int32))] [])) _
        refine XS.bipush X41.here hx rfl (hb hby at_50) ?_
        show Steps p.tables e below (T41.setTop (mkF m 52 #[.val (.int ua), .val (.int c1), .val (.int (1 : Int32))] [(.int (10 : Int32))])) _
        exact kt)
      obtain ⟨_, _, ⟨T45, L45, k45, n45⟩, -, X45, ⟨Lc45, hQ45, l45, y45, z45⟩, ls45⟩ := Jvm.LawKit.callS X41 hx (y := (⟨"com/example/datumbridge/datumbridge/cli/InputLines", "isBlank", "(C)Z"⟩ : MethodName)) hown (mvT hZ (hw _ (List.mem_of_getElem? (i := 1) rfl))) (mvT hZ (hw _ (List.mem_of_getElem? (i := 2) rfl))) (mvT hZ (hw _ (List.mem_of_getElem? (i := 3) rfl))) (mvT hZ (hw _ (List.mem_of_getElem? (i := 4) rfl))) (by decide) (backOf (W := 0) (rm_bl l Z a0 hw [] ((10 : Int32)) h0 n0 Z0) hZ (hw _ (List.mem_of_getElem? (i := 4) rfl)) (hw _ (List.mem_of_getElem? (i := 3) rfl)) (by decide) (by decide)) (g := (mkF m 52 #[.val (.int ua), .val (.int c1), .val (.int (1 : Int32))] [(.int (10 : Int32))])) rfl (by rw [hml]; rfl) (argsL := [(.int (10 : Int32))]) (rest := []) (lenOf own_pd0 rfl) rfl (by show 2 * 0 + _ ≤ _; exact Nat.le_of_eq rfl) (hb hby at_52) (fun _ _ => ⟨rfl, eq41, (by decide : 0 + 0 ≤ _), (by decide : 0 + 0 ≤ _)⟩)
      dsimp only [Pt.U, Pt.locs, Pt.cells, Pt.slots] at X45 l45 y45 z45 ls45 hQ45
      subst l45 y45 z45
      obtain ⟨rfl, Nq45, eq45⟩ := hQ45
      have N45 := Fr.app N41 Nq45
      have st46 : own_Go p e below (T45.setTop (mkF m 55 #[.val (.int ua), .val (.int c1), .val (.int (1 : Int32))] [(.int (own_bl (10 : Int32)))])) (s₁.setTop (entryFrame m #[(.int ua)] maxLocals)) := fun t kt => st44 t (ls45 t kt)
      have hc47 : (own_bl (10 : Int32)) = (0 : Int32) := by decide
      have st48 : own_Go p e below (T45.setTop (mkF m 60 #[.val (.int ua), .val (.int c1), .val (.int (1 : Int32))] [(.int (13 : Int32))])) (s₁.setTop (entryFrame m #[(.int ua)] maxLocals)) := fun t kt => st46 t (by
        show Steps p.tables e below (T45.setTop (mkF m 55 #[.val (.int ua), .val (.int c1), .val (.int (1 : Int32))] [(.int (own_bl (10 : Int32)))])) _
        refine XS.ifNo X45.here hx rfl (hb hby at_55) rfl ((if0 _ _).trans (teq hc47).2) ?_
        show Steps p.tables e below (T45.setTop (mkF m 58 #[.val (.int ua), .val (.int c1), .val (.int (1 : Int32))] [])) _
        refine XS.bipush X45.here hx rfl (hb hby at_58) ?_
        show Steps p.tables e below (T45.setTop (mkF m 60 #[.val (.int ua), .val (.int c1), .val (.int (1 : Int32))] [(.int (13 : Int32))])) _
        exact kt)
      obtain ⟨_, _, ⟨T49, L49, k49, n49⟩, -, X49, ⟨Lc49, hQ49, l49, y49, z49⟩, ls49⟩ := Jvm.LawKit.callS X45 hx (y := (⟨"com/example/datumbridge/datumbridge/cli/InputLines", "isBlank", "(C)Z"⟩ : MethodName)) hown (mvT hZ (hw _ (List.mem_of_getElem? (i := 1) rfl))) (mvT hZ (hw _ (List.mem_of_getElem? (i := 2) rfl))) (mvT hZ (hw _ (List.mem_of_getElem? (i := 3) rfl))) (mvT hZ (hw _ (List.mem_of_getElem? (i := 4) rfl))) (by decide) (backOf (W := 0) (rm_bl l Z a0 hw [] ((13 : Int32)) h0 n0 Z0) hZ (hw _ (List.mem_of_getElem? (i := 4) rfl)) (hw _ (List.mem_of_getElem? (i := 3) rfl)) (by decide) (by decide)) (g := (mkF m 60 #[.val (.int ua), .val (.int c1), .val (.int (1 : Int32))] [(.int (13 : Int32))])) rfl (by rw [hml]; rfl) (argsL := [(.int (13 : Int32))]) (rest := []) (lenOf own_pd0 rfl) rfl (by show 2 * 0 + _ ≤ _; exact Nat.le_of_eq rfl) (hb hby at_60) (fun _ _ => ⟨rfl, eq45, (by decide : 0 + 0 ≤ _), (by decide : 0 + 0 ≤ _)⟩)
      dsimp only [Pt.U, Pt.locs, Pt.cells, Pt.slots] at X49 l49 y49 z49 ls49 hQ49
      subst l49 y49 z49
      obtain ⟨rfl, Nq49, eq49⟩ := hQ49
      have N49 := Fr.app N45 Nq49
      have st50 : own_Go p e below (T49.setTop (mkF m 63 #[.val (.int ua), .val (.int c1), .val (.int (1 : Int32))] [(.int (own_bl (13 : Int32)))])) (s₁.setTop (entryFrame m #[(.int ua)] maxLocals)) := fun t kt => st48 t (ls49 t kt)
      have hc51 : (own_bl (13 : Int32)) = (0 : Int32) := by decide
      have st52 : own_Go p e below (T49.setTop (mkF m 68 #[.val (.int ua), .val (.int c1), .val (.int (1 : Int32))] [(.int (11 : Int32))])) (s₁.setTop (entryFrame m #[(.int ua)] maxLocals)) := fun t kt => st50 t (by
        show Steps p.tables e below (T49.setTop (mkF m 63 #[.val (.int ua), .val (.int c1), .val (.int (1 : Int32))] [(.int (own_bl (13 : Int32)))])) _
        refine XS.ifNo X49.here hx rfl (hb hby at_63) rfl ((if0 _ _).trans (teq hc51).2) ?_
        show Steps p.tables e below (T49.setTop (mkF m 66 #[.val (.int ua), .val (.int c1), .val (.int (1 : Int32))] [])) _
        refine XS.bipush X49.here hx rfl (hb hby at_66) ?_
        show Steps p.tables e below (T49.setTop (mkF m 68 #[.val (.int ua), .val (.int c1), .val (.int (1 : Int32))] [(.int (11 : Int32))])) _
        exact kt)
      obtain ⟨_, _, ⟨T53, L53, k53, n53⟩, -, X53, ⟨Lc53, hQ53, l53, y53, z53⟩, ls53⟩ := Jvm.LawKit.callS X49 hx (y := (⟨"com/example/datumbridge/datumbridge/cli/InputLines", "isBlank", "(C)Z"⟩ : MethodName)) hown (mvT hZ (hw _ (List.mem_of_getElem? (i := 1) rfl))) (mvT hZ (hw _ (List.mem_of_getElem? (i := 2) rfl))) (mvT hZ (hw _ (List.mem_of_getElem? (i := 3) rfl))) (mvT hZ (hw _ (List.mem_of_getElem? (i := 4) rfl))) (by decide) (backOf (W := 0) (rm_bl l Z a0 hw [] ((11 : Int32)) h0 n0 Z0) hZ (hw _ (List.mem_of_getElem? (i := 4) rfl)) (hw _ (List.mem_of_getElem? (i := 3) rfl)) (by decide) (by decide)) (g := (mkF m 68 #[.val (.int ua), .val (.int c1), .val (.int (1 : Int32))] [(.int (11 : Int32))])) rfl (by rw [hml]; rfl) (argsL := [(.int (11 : Int32))]) (rest := []) (lenOf own_pd0 rfl) rfl (by show 2 * 0 + _ ≤ _; exact Nat.le_of_eq rfl) (hb hby at_68) (fun _ _ => ⟨rfl, eq49, (by decide : 0 + 0 ≤ _), (by decide : 0 + 0 ≤ _)⟩)
      dsimp only [Pt.U, Pt.locs, Pt.cells, Pt.slots] at X53 l53 y53 z53 ls53 hQ53
      subst l53 y53 z53
      obtain ⟨rfl, Nq53, eq53⟩ := hQ53
      have N53 := Fr.app N49 Nq53
      have st54 : own_Go p e below (T53.setTop (mkF m 71 #[.val (.int ua), .val (.int c1), .val (.int (1 : Int32))] [(.int (own_bl (11 : Int32)))])) (s₁.setTop (entryFrame m #[(.int ua)] maxLocals)) := fun t kt => st52 t (ls53 t kt)
      have hc55 : (own_bl (11 : Int32)) = (0 : Int32) := by decide
      have st56 : own_Go p e below (T53.setTop (mkF m 77 #[.val (.int ua), .val (.int c1), .val (.int (1 : Int32))] [(.int (160 : Int32))])) (s₁.setTop (entryFrame m #[(.int ua)] maxLocals)) := fun t kt => st54 t (by
        show Steps p.tables e below (T53.setTop (mkF m 71 #[.val (.int ua), .val (.int c1), .val (.int (1 : Int32))] [(.int (own_bl (11 : Int32)))])) _
        refine XS.ifNo X53.here hx rfl (hb hby at_71) rfl ((if0 _ _).trans (teq hc55).2) ?_
        show Steps p.tables e below (T53.setTop (mkF m 74 #[.val (.int ua), .val (.int c1), .val (.int (1 : Int32))] [])) _
        refine XS.sipush X53.here hx rfl (hb hby at_74) ?_
        show Steps p.tables e below (T53.setTop (mkF m 77 #[.val (.int ua), .val (.int c1), .val (.int (1 : Int32))] [(.int (160 : Int32))])) _
        exact kt)
      obtain ⟨_, _, ⟨T57, L57, k57, n57⟩, -, X57, ⟨Lc57, hQ57, l57, y57, z57⟩, ls57⟩ := Jvm.LawKit.callS X53 hx (y := (⟨"com/example/datumbridge/datumbridge/cli/InputLines", "isBlank", "(C)Z"⟩ : MethodName)) hown (mvT hZ (hw _ (List.mem_of_getElem? (i := 1) rfl))) (mvT hZ (hw _ (List.mem_of_getElem? (i := 2) rfl))) (mvT hZ (hw _ (List.mem_of_getElem? (i := 3) rfl))) (mvT hZ (hw _ (List.mem_of_getElem? (i := 4) rfl))) (by decide) (backOf (W := 0) (rm_bl l Z a0 hw [] ((160 : Int32)) h0 n0 Z0) hZ (hw _ (List.mem_of_getElem? (i := 4) rfl)) (hw _ (List.mem_of_getElem? (i := 3) rfl)) (by decide) (by decide)) (g := (mkF m 77 #[.val (.int ua), .val (.int c1), .val (.int (1 : Int32))] [(.int (160 : Int32))])) rfl (by rw [hml]; rfl) (argsL := [(.int (160 : Int32))]) (rest := []) (lenOf own_pd0 rfl) rfl (by show 2 * 0 + _ ≤ _; exact Nat.le_of_eq rfl) (hb hby at_77) (fun _ _ => ⟨rfl, eq53, (by decide : 0 + 0 ≤ _), (by decide : 0 + 0 ≤ _)⟩)
      dsimp only [Pt.U, Pt.locs, Pt.cells, Pt.slots] at X57 l57 y57 z57 ls57 hQ57
      subst l57 y57 z57
      obtain ⟨rfl, Nq57, eq57⟩ := hQ57
      have N57 := Fr.app N53 Nq57
      have st58 : own_Go p e below (T57.setTop (mkF m 80 #[.val (.int ua), .val (.int c1), .val (.int (1 : Int32))] [(.int (own_bl (160 : Int32)))])) (s₁.setTop (entryFrame m #[(.int ua)] maxLocals)) := fun t kt => st56 t (ls57 t kt)
      have hc59 : (own_bl (160 : Int32)) = (0 : Int32) := by decide
      have st60 : own_Go p e below (T57.setTop (mkF m 88 #[.val (.int ua), .val (.int c1), .val (.int (1 : Int32))] [(.int (1 : Int32))])) (s₁.setTop (entryFrame m #[(.int ua)] maxLocals)) := fun t kt => st58 t (by
        show Steps p.tables e below (T57.setTop (mkF m 80 #[.val (.int ua), .val (.int c1), .val (.int (1 : Int32))] [(.int (own_bl (160 : Int32)))])) _
        refine XS.ifNo X57.here hx rfl (hb hby at_80) rfl ((if0 _ _).trans (teq hc59).2) ?_
        show Steps p.tables e below (T57.setTop (mkF m 83 #[.val (.int ua), .val (.int c1), .val (.int (1 : Int32))] [])) _
        refine XS.iconst X57.here hx rfl (hb hby at_83) ?_
        show Steps p.tables e below (T57.setTop (mkF m 84 #[.val (.int ua), .val (.int c1), .val (.int (1 : Int32))] [(.int (1 : Int32))])) _
        refine XS.goto X57.here hx rfl (pc0 := 84) (pc' := 88) rfl (hb hby at_84) (by decide) (by decide) ?_
        show Steps p.tables e below (T57.setTop (mkF m 88 #[.val (.int ua), .val (.int c1), .val (.int (1 : Int32))] [(.int (1 : Int32))])) _
        exact kt)
      obtain ⟨fs, hr, hrun, hended, hW, hsame⟩ := X57.leave (v := (some (.int (1 : Int32)))) (fun h => by rw [Bd.returns] at h; cases h)
      refine ⟨_, _, st60 _ ?_, hrun, hended, _, _, rfl, ?_, ⟨_, rfl⟩, hW, hsame.mono (by decide) (by decide)⟩
      · exact retN X57 hx (t := .boolean) Bd.returns (by simp) (hb hby at_88) hr
      · show Q_rm_law Z ua h0 n0 _ T57.heap _
        rw [eq57]
        exact ⟨rfl, N57⟩
    · have st61 : own_Go p e below (s₁.setTop (mkF m 25 #[.val (.int ua), .val (.int c1), .val (.int (0 : Int32))] [(.int c1)])) (s₁.setTop (entryFrame m #[(.int ua)] maxLocals)) := fun t kt => st31 t (by
        show Steps p.tables e below (s₁.setTop (mkF m 15 #[.val (.int ua), .val (.int c1), .unset] [(.int (32 : Int32)), (.int c1)])) _
        refine XS.icmpYes X0.here hx rfl (pc0 := 15) (pc' := 22) rfl (hb hby at_15) rfl (feq q2).2 (by decide) (by decide) ?_
        show Steps p.tables e below (s₁.setTop (mkF m 22 #[.val (.int ua), .val (.int c1), .unset] [])) _
        refine XS.iconst X0.here hx rfl (hb hby at_22) ?_
        show Steps p.tables e below (s₁.setTop (mkF m 23 #[.val (.int ua), .val (.int c1), .unset] [(.int (0 : Int32))])) _
        refine XS.istoreN X0.here hx rfl (hb hby at_23) rfl (l' := #[.val (.int ua), .val (.int c1), .val (.int (0 : Int32))]) rfl ?_
        show Steps p.tables e below (s₁.setTop (mkF m 24 #[.val (.int ua), .val (.int c1), .val (.int (0 : Int32))] [])) _
        refine XS.iloadN X0.here hx rfl (hb hby at_24) rfl ?_
        show Steps p.tables e below (s₁.setTop (mkF m 25 #[.val (.int ua), .val (.int c1), .val (.int (0 : Int32))] [(.int c1)])) _
        exact kt)
      obtain ⟨_, _, ⟨T62, L62, k62, n62⟩, -, X62, ⟨Lc62, hQ62, l62, y62, z62⟩, ls62⟩ := Jvm.LawKit.callS X0 hx (y := (⟨"com/example/datumbridge/datumbridge/cli/InputLines", "isBlank", "(C)Z"⟩ : MethodName)) hown (mvT hZ (hw _ (List.mem_of_getElem? (i := 1) rfl))) (mvT hZ (hw _ (List.mem_of_getElem? (i := 2) rfl))) (mvT hZ (hw _ (List.mem_of_getElem? (i := 3) rfl))) (mvT hZ (hw _ (List.mem_of_getElem? (i := 4) rfl))) (by decide) (backOf (W := 0) (rm_bl l Z a0 hw [] c1 h0 n0 Z0) hZ (hw _ (List.mem_of_getElem? (i := 4) rfl)) (hw _ (List.mem_of_getElem? (i := 3) rfl)) (by decide) (by decide)) (g := (mkF m 25 #[.val (.int ua), .val (.int c1), .val (.int (0 : Int32))] [(.int c1)])) rfl (by rw [hml]; rfl) (argsL := [(.int c1)]) (rest := []) (lenOf own_pd0 rfl) rfl (by show 2 * 0 + _ ≤ _; exact Nat.le_of_eq rfl) (hb hby at_25) (fun _ _ => ⟨rfl, e0, (by decide : 0 + 0 ≤ _), (by decide : 0 + 0 ≤ _)⟩)
      dsimp only [Pt.U, Pt.locs, Pt.cells, Pt.slots] at X62 l62 y62 z62 ls62 hQ62
      subst l62 y62 z62
      obtain ⟨rfl, Nq62, eq62⟩ := hQ62
      have N62 := Fr.app N0 Nq62
      have st63 : own_Go p e below (T62.setTop (mkF m 28 #[.val (.int ua), .val (.int c1), .val (.int (0 : Int32))] [(.int (own_bl c1))])) (s₁.setTop (entryFrame m #[(.int ua)] maxLocals)) := fun t kt => st61 t (ls62 t kt)
      have hc64 : (own_bl c1) = (0 : Int32) := by simp [own_bl, q1, q2]
      have st65 : own_Go p e below (T62.setTop (mkF m 36 #[.val (.int ua), .val (.int c1), .val (.int (0 : Int32))] [(.int (32 : Int32))])) (s₁.setTop (entryFrame m #[(.int ua)] maxLocals)) := fun t kt => st63 t (by
        show Steps p.tables e below (T62.setTop (mkF m 28 #[.val (.int ua), .val (.int c1), .val (.int (0 : Int32))] [(.int (own_bl c1))])) _
        refine XS.iloadN X62.here hx rfl (hb hby at_28) rfl ?_
        show Steps p.tables e below (T62.setTop (mkF m 29 #[.val (.int ua), .val (.int c1), .val (.int (0 : Int32))] [(.int (0 : Int32)), (.int (own_bl c1))])) _
        refine XS.icmpYes X62.here hx rfl (pc0 := 29) (pc' := 34) rfl (hb hby at_29) rfl (teq hc64).1 (by decide) (by decide) ?_
        show Steps p.tables e below (T62.setTop (mkF m 34 #[.val (.int ua), .val (.int c1), .val (.int (0 : Int32))] [])) _
        refine XS.bipush X62.here hx rfl (hb hby at_34) ?_
        show Steps p.tables e below (T62.setTop (mkF m 36 #[.val (.int ua), .val (.int c1), .val (.int (0 : Int32))] [(.int (32 : Int32))])) _
        exact kt)
      obtain ⟨_, _, ⟨T66, L66, k66, n66⟩, -, X66, ⟨Lc66, hQ66, l66, y66, z66⟩, ls66⟩ := Jvm.LawKit.callS X62 hx (y := (⟨"com/example/datumbridge/datumbridge/cli/InputLines", "isBlank", "(C)Z"⟩ : MethodName)) hown (mvT hZ (hw _ (List.mem_of_getElem? (i := 1) rfl))) (mvT hZ (hw _ (List.mem_of_getElem? (i := 2) rfl))) (mvT hZ (hw _ (List.mem_of_getElem? (i := 3) rfl))) (mvT hZ (hw _ (List.mem_of_getElem? (i := 4) rfl))) (by decide) (backOf (W := 0) (rm_bl l Z a0 hw [] ((32 : Int32)) h0 n0 Z0) hZ (hw _ (List.mem_of_getElem? (i := 4) rfl)) (hw _ (List.mem_of_getElem? (i := 3) rfl)) (by decide) (by decide)) (g := (mkF m 36 #[.val (.int ua), .val (.int c1), .val (.int (0 : Int32))] [(.int (32 : Int32))])) rfl (by rw [hml]; rfl) (argsL := [(.int (32 : Int32))]) (rest := []) (lenOf own_pd0 rfl) rfl (by show 2 * 0 + _ ≤ _; exact Nat.le_of_eq rfl) (hb hby at_36) (fun _ _ => ⟨rfl, eq62, (by decide : 0 + 0 ≤ _), (by decide : 0 + 0 ≤ _)⟩)
      dsimp only [Pt.U, Pt.locs, Pt.cells, Pt.slots] at X66 l66 y66 z66 ls66 hQ66
      subst l66 y66 z66
      obtain ⟨rfl, Nq66, eq66⟩ := hQ66
      have N66 := Fr.app N62 Nq66
      have st67 : own_Go p e below (T66.setTop (mkF m 39 #[.val (.int ua), .val (.int c1), .val (.int (0 : Int32))] [(.int (own_bl (32 : Int32)))])) (s₁.setTop (entryFrame m #[(.int ua)] maxLocals)) := fun t kt => st65 t (ls66 t kt)
      have hc68 : ¬ ((own_bl (32 : Int32)) = (0 : Int32)) := by decide
      have st69 : own_Go p e below (T66.setTop (mkF m 44 #[.val (.int ua), .val (.int c1), .val (.int (0 : Int32))] [(.int (9 : Int32))])) (s₁.setTop (entryFrame m #[(.int ua)] maxLocals)) := fun t kt => st67 t (by
        show Steps p.tables e below (T66.setTop (mkF m 39 #[.val (.int ua), .val (.int c1), .val (.int (0 : Int32))] [(.int (own_bl (32 : Int32)))])) _
        refine XS.ifNo X66.here hx rfl (hb hby at_39) rfl ((if0 _ _).trans (feq hc68).1) ?_
        show Steps p.tables e below (T66.setTop (mkF m 42 #[.val (.int ua), .val (.int c1), .val (.int (0 : Int32))] [])) _
        refine XS.bipush X66.here hx rfl (hb hby at_42) ?_
        show Steps p.tables e below (T66.setTop (mkF m 44 #[.val (.int ua), .val (.int c1), .val (.int (0 : Int32))] [(.int (9 : Int32))])) _
        exact kt)
      obtain ⟨_, _, ⟨T70, L70, k70, n70⟩, -, X70, ⟨Lc70, hQ70, l70, y70, z70⟩, ls70⟩ := Jvm.LawKit.callS X66 hx (y := (⟨"com/example/datumbridge/datumbridge/cli/InputLines", "isBlank", "(C)Z"⟩ : MethodName)) hown (mvT hZ (hw _ (List.mem_of_getElem? (i := 1) rfl))) (mvT hZ (hw _ (List.mem_of_getElem? (i := 2) rfl))) (mvT hZ (hw _ (List.mem_of_getElem? (i := 3) rfl))) (mvT hZ (hw _ (List.mem_of_getElem? (i := 4) rfl))) (by decide) (backOf (W := 0) (rm_bl l Z a0 hw [] ((9 : Int32)) h0 n0 Z0) hZ (hw _ (List.mem_of_getElem? (i := 4) rfl)) (hw _ (List.mem_of_getElem? (i := 3) rfl)) (by decide) (by decide)) (g := (mkF m 44 #[.val (.int ua), .val (.int c1), .val (.int (0 : Int32))] [(.int (9 : Int32))])) rfl (by rw [hml]; rfl) (argsL := [(.int (9 : Int32))]) (rest := []) (lenOf own_pd0 rfl) rfl (by show 2 * 0 + _ ≤ _; exact Nat.le_of_eq rfl) (hb hby at_44) (fun _ _ => ⟨rfl, eq66, (by decide : 0 + 0 ≤ _), (by decide : 0 + 0 ≤ _)⟩)
      dsimp only [Pt.U, Pt.locs, Pt.cells, Pt.slots] at X70 l70 y70 z70 ls70 hQ70
      subst l70 y70 z70
      obtain ⟨rfl, Nq70, eq70⟩ := hQ70
      have N70 := Fr.app N66 Nq70
      have st71 : own_Go p e below (T70.setTop (mkF m 47 #[.val (.int ua), .val (.int c1), .val (.int (0 : Int32))] [(.int (own_bl (9 : Int32)))])) (s₁.setTop (entryFrame m #[(.int ua)] maxLocals)) := fun t kt => st69 t (ls70 t kt)
      have hc72 : ¬ ((own_bl (9 : Int32)) = (0 : Int32)) := by decide
      have st73 : own_Go p e below (T70.setTop (mkF m 52 #[.val (.int ua), .val (.int c1), .val (.int (0 : Int32))] [(.int (10 : Int32))])) (s₁.setTop (entryFrame m #[(.int ua)] maxLocals)) := fun t kt => st71 t (by
        show Steps p.tables e below (T70.setTop (mkF m 47 #[.val (.int ua), .val (.int c1), .val (.int (0 : Int32))] [(.int (own_bl (9 : Int32)))])) _
        refine XS.ifNo X70.here hx rfl (hb hby at_47) rfl ((if0 _ _).trans (feq hc72).1) ?_
        show Steps p.tables e below (T70.setTop (mkF m 50 #[.val (.int ua), .val (.int c1), .val (.int (0 : Int32))] [])) _
        refine XS.bipush X70.here hx rfl (hb hby at_50) ?_
        show Steps p.tables e below (T70.setTop (mkF m 52 #[.val (.int ua), .val (.int c1), .val (.int (0 : Int32))] [(.int (10 : Int32))])) _
        exact kt)
      obtain ⟨_, _, ⟨T74, L74, k74, n74⟩, -, X74, ⟨Lc74, hQ74, l74, y74, z74⟩, ls74⟩ := Jvm.LawKit.callS X70 hx (y := (⟨"com/example/datumbridge/datumbridge/cli/InputLines", "isBlank", "(C)Z"⟩ : MethodName)) hown (mvT hZ (hw _ (List.mem_of_getElem? (i := 1) rfl))) (mvT hZ (hw _ (List.mem_of_getElem? (i := 2) rfl))) (mvT hZ (hw _ (List.mem_of_getElem? (i := 3) rfl))) (mvT hZ (hw _ (List.mem_of_getElem? (i := 4) rfl))) (by decide) (backOf (W := 0) (rm_bl l Z a0 hw [] ((10 : Int32)) h0 n0 Z0) hZ (hw _ (List.mem_of_getElem? (i := 4) rfl)) (hw _ (List.mem_of_getElem? (i := 3) rfl)) (by decide) (by decide)) (g := (mkF m 52 #[.val (.int ua), .val (.int c1), .val (.int (0 : Int32))] [(.int (10 : Int32))])) rfl (by rw [hml]; rfl) (argsL := [(.int (10 : Int32))]) (rest := []) (lenOf own_pd0 rfl) rfl (by show 2 * 0 + _ ≤ _; exact Nat.le_of_eq rfl) (hb hby at_52) (fun _ _ => ⟨rfl, eq70, (by decide : 0 + 0 ≤ _), (by decide : 0 + 0 ≤ _)⟩)
      dsimp only [Pt.U, Pt.locs, Pt.cells, Pt.slots] at X74 l74 y74 z74 ls74 hQ74
      subst l74 y74 z74
      obtain ⟨rfl, Nq74, eq74⟩ := hQ74
      have N74 := Fr.app N70 Nq74
      have st75 : own_Go p e below (T74.setTop (mkF m 55 #[.val (.int ua), .val (.int c1), .val (.int (0 : Int32))] [(.int (own_bl (10 : Int32)))])) (s₁.setTop (entryFrame m #[(.int ua)] maxLocals)) := fun t kt => st73 t (ls74 t kt)
      have hc76 : (own_bl (10 : Int32)) = (0 : Int32) := by decide
      have st77 : own_Go p e below (T74.setTop (mkF m 60 #[.val (.int ua), .val (.int c1), .val (.int (0 : Int32))] [(.int (13 : Int32))])) (s₁.setTop (entryFrame m #[(.int ua)] maxLocals)) := fun t kt => st75 t (by
        show Steps p.tables e below (T74.setTop (mkF m 55 #[.val (.int ua), .val (.int c1), .val (.int (0 : Int32))] [(.int (own_bl (10 : Int32)))])) _
        refine XS.ifNo X74.here hx rfl (hb hby at_55) rfl ((if0 _ _).trans (teq hc76).2) ?_
        show Steps p.tables e below (T74.setTop (mkF m 58 #[.val (.int ua), .val (.int c1), .val (.int (0 : Int32))] [])) _
        refine XS.bipush X74.here hx rfl (hb hby at_58) ?_
        show Steps p.tables e below (T74.setTop (mkF m 60 #[.val (.int ua), .val (.int c1), .val (.int (0 : Int32))] [(.int (13 : Int32))])) _
        exact kt)
      obtain ⟨_, _, ⟨T78, L78, k78, n78⟩, -, X78, ⟨Lc78, hQ78, l78, y78, z78⟩, ls78⟩ := Jvm.LawKit.callS X74 hx (y := (⟨"com/example/datumbridge/datumbridge/cli/InputLines", "isBlank", "(C)Z"⟩ : MethodName)) hown (mvT hZ (hw _ (List.mem_of_getElem? (i := 1) rfl))) (mvT hZ (hw _ (List.mem_of_getElem? (i := 2) rfl))) (mvT hZ (hw _ (List.mem_of_getElem? (i := 3) rfl))) (mvT hZ (hw _ (List.mem_of_getElem? (i := 4) rfl))) (by decide) (backOf (W := 0) (rm_bl l Z a0 hw [] ((13 : Int32)) h0 n0 Z0) hZ (hw _ (List.mem_of_getElem? (i := 4) rfl)) (hw _ (List.mem_of_getElem? (i := 3) rfl)) (by decide) (by decide)) (g := (mkF m 60 #[.val (.int ua), .val (.int c1), .val (.int (0 : Int32))] [(.int (13 : Int32))])) rfl (by rw [hml]; rfl) (argsL := [(.int (13 : Int32))]) (rest := []) (lenOf own_pd0 rfl) rfl (by show 2 * 0 + _ ≤ _; exact Nat.le_of_eq rfl) (hb hby at_60) (fun _ _ => ⟨rfl, eq74, (by decide : 0 + 0 ≤ _), (by decide : 0 + 0 ≤ _)⟩)
      dsimp only [Pt.U, Pt.locs, Pt.cells, Pt.slots] at X78 l78 y78 z78 ls78 hQ78
      subst l78 y78 z78
      obtain ⟨rfl, Nq78, eq78⟩ := hQ78
      have N78 := Fr.app N74 Nq78
      have st79 : own_Go p e below (T78.setTop (mkF m 63 #[.val (.int ua), .val (.int c1), .val (.int (0 : Int32))] [(.int (own_bl (13 : Int32)))])) (s₁.setTop (entryFrame m #[(.int ua)] maxLocals)) := fun t kt => st77 t (ls78 t kt)
      have hc80 : (own_bl (13 : Int32)) = (0 : Int32) := by decide
      have st81 : own_Go p e below (T78.setTop (mkF m 68 #[.val (.int ua), .val (.int c1), .val (.int (0 : Int32))] [(.int (11 : Int32))])) (s₁.setTop (entryFrame m #[(.int ua)] maxLocals)) := fun t kt => st79 t (by
        show Steps p.tables e below (T78.setTop (mkF m 63 #[.val (.int ua), .val (.int c1), .val (.int (0 : Int32))] [(.int (own_bl (13 : Int32)))])) _
        refine XS.ifNo X78.here hx rfl (hb hby at_63) rfl ((if0 _ _).trans (teq hc80).2) ?_
        show Steps p.tables e below (T78.setTop (mkF m 66 #[.val (.int ua), .val (.int c1), .val (.int (0 : Int32))] [])) _
        refine XS.bipush X78.here hx rfl (hb hby at_66) ?_
        show Steps p.tables e below (T78.setTop (mkF m 68 #[.val (.int ua), .val (.int c1), .val (.int (0 : Int32))] [(.int (11 : Int32))])) _
        exact kt)
      obtain ⟨_, _, ⟨T82, L82, k82, n82⟩, -, X82, ⟨Lc82, hQ82, l82, y82, z82⟩, ls82⟩ := Jvm.LawKit.callS X78 hx (y := (⟨"com/example/datumbridge/datumbridge/cli/InputLines", "isBlank", "(C)Z"⟩ : MethodName)) hown (mvT hZ (hw _ (List.mem_of_getElem? (i := 1) rfl))) (mvT hZ (hw _ (List.mem_of_getElem? (i := 2) rfl))) (mvT hZ (hw _ (List.mem_of_getElem? (i := 3) rfl))) (mvT hZ (hw _ (List.mem_of_getElem? (i := 4) rfl))) (by decide) (backOf (W := 0) (rm_bl l Z a0 hw [] ((11 : Int32)) h0 n0 Z0) hZ (hw _ (List.mem_of_getElem? (i := 4) rfl)) (hw _ (List.mem_of_getElem? (i := 3) rfl)) (by decide) (by decide)) (g := (mkF m 68 #[.val (.int ua), .val (.int c1), .val (.int (0 : Int32))] [(.int (11 : Int32))])) rfl (by rw [hml]; rfl) (argsL := [(.int (11 : Int32))]) (rest := []) (lenOf own_pd0 rfl) rfl (by show 2 * 0 + _ ≤ _; exact Nat.le_of_eq rfl) (hb hby at_68) (fun _ _ => ⟨rfl, eq78, (by decide : 0 + 0 ≤ _), (by decide : 0 + 0 ≤ _)⟩)
      dsimp only [Pt.U, Pt.locs, Pt.cells, Pt.slots] at X82 l82 y82 z82 ls82 hQ82
      subst l82 y82 z82
      obtain ⟨rfl, Nq82, eq82⟩ := hQ82
      have N82 := Fr.app N78 Nq82
      have st83 : own_Go p e below (T82.setTop (mkF m 71 #[.val (.int ua), .val (.int c1), .val (.int (0 : Int32))] [(.int (own_bl (11 : Int32)))])) (s₁.setTop (entryFrame m #[(.int ua)] maxLocals)) := fun t kt => st81 t (ls82 t kt)
      have hc84 : (own_bl (11 : Int32)) = (0 : Int32) := by decide
      have st85 : own_Go p e below (T82.setTop (mkF m 77 #[.val (.int ua), .val (.int c1), .val (.int (0 : Int32))] [(.int (160 : Int32))])) (s₁.setTop (entryFrame m #[(.int ua)] maxLocals)) := fun t kt => st83 t (by
        show Steps p.tables e below (T82.setTop (mkF m 71 #[.val (.int ua), .val (.int c1), .val (.int (0 : Int32))] [(.int (own_bl (11 : Int32)))])) _
        refine XS.ifNo X82.here hx rfl (hb hby at_71) rfl ((if0 _ _).trans (teq hc84).2) ?_
        show Steps p.tables e below (T82.setTop (mkF m 74 #[.val (.int ua), .val (.int c1), .val (.int (0 : Int32))] [])) _
        refine XS.sipush X82.here hx rfl (hb hby at_74) ?_
        show Steps p.tables e below (T82.setTop (mkF m 77 #[.val (.int ua), .val (.int c1), .val (.int (0 : Int32))] [(.int (160 : Int32))])) _
        exact kt)
      obtain ⟨_, _, ⟨T86, L86, k86, n86⟩, -, X86, ⟨Lc86, hQ86, l86, y86, z86⟩, ls86⟩ := Jvm.LawKit.callS X82 hx (y := (⟨"com/example/datumbridge/datumbridge/cli/InputLines", "isBlank", "(C)Z"⟩ : MethodName)) hown (mvT hZ (hw _ (List.mem_of_getElem? (i := 1) rfl))) (mvT hZ (hw _ (List.mem_of_getElem? (i := 2) rfl))) (mvT hZ (hw _ (List.mem_of_getElem? (i := 3) rfl))) (mvT hZ (hw _ (List.mem_of_getElem? (i := 4) rfl))) (by decide) (backOf (W := 0) (rm_bl l Z a0 hw [] ((160 : Int32)) h0 n0 Z0) hZ (hw _ (List.mem_of_getElem? (i := 4) rfl)) (hw _ (List.mem_of_getElem? (i := 3) rfl)) (by decide) (by decide)) (g := (mkF m 77 #[.val (.int ua), .val (.int c1), .val (.int (0 : Int32))] [(.int (160 : Int32))])) rfl (by rw [hml]; rfl) (argsL := [(.int (160 : Int32))]) (rest := []) (lenOf own_pd0 rfl) rfl (by show 2 * 0 + _ ≤ _; exact Nat.le_of_eq rfl) (hb hby at_77) (fun _ _ => ⟨rfl, eq82, (by decide : 0 + 0 ≤ _), (by decide : 0 + 0 ≤ _)⟩)
      dsimp only [Pt.U, Pt.locs, Pt.cells, Pt.slots] at X86 l86 y86 z86 ls86 hQ86
      subst l86 y86 z86
      obtain ⟨rfl, Nq86, eq86⟩ := hQ86
      have N86 := Fr.app N82 Nq86
      have st87 : own_Go p e below (T86.setTop (mkF m 80 #[.val (.int ua), .val (.int c1), .val (.int (0 : Int32))] [(.int (own_bl (160 : Int32)))])) (s₁.setTop (entryFrame m #[(.int ua)] maxLocals)) := fun t kt => st85 t (ls86 t kt)
      have hc88 : (own_bl (160 : Int32)) = (0 : Int32) := by decide
      have st89 : own_Go p e below (T86.setTop (mkF m 88 #[.val (.int ua), .val (.int c1), .val (.int (0 : Int32))] [(.int (1 : Int32))])) (s₁.setTop (entryFrame m #[(.int ua)] maxLocals)) := fun t kt => st87 t (by
        show Steps p.tables e below (T86.setTop (mkF m 80 #[.val (.int ua), .val (.int c1), .val (.int (0 : Int32))] [(.int (own_bl (160 : Int32)))])) _
        refine XS.ifNo X86.here hx rfl (hb hby at_80) rfl ((if0 _ _).trans (teq hc88).2) ?_
        show Steps p.tables e below (T86.setTop (mkF m 83 #[.val (.int ua), .val (.int c1), .val (.int (0 : Int32))] [])) _
        refine XS.iconst X86.here hx rfl (hb hby at_83) ?_
        show Steps p.tables e below (T86.setTop (mkF m 84 #[.val (.int ua), .val (.int c1), .val (.int (0 : Int32))] [(.int (1 : Int32))])) _
        refine XS.goto X86.here hx rfl (pc0 := 84) (pc' := 88) rfl (hb hby at_84) (by decide) (by decide) ?_
        show Steps p.tables e below (T86.setTop (mkF m 88 #[.val (.int ua), .val (.int c1), .val (.int (0 : Int32))] [(.int (1 : Int32))])) _
        exact kt)
      obtain ⟨fs, hr, hrun, hended, hW, hsame⟩ := X86.leave (v := (some (.int (1 : Int32)))) (fun h => by rw [Bd.returns] at h; cases h)
      refine ⟨_, _, st89 _ ?_, hrun, hended, _, _, rfl, ?_, ⟨_, rfl⟩, hW, hsame.mono (by decide) (by decide)⟩
      · exact retN X86 hx (t := .boolean) Bd.returns (by simp) (hb hby at_88) hr
      · show Q_rm_law Z ua h0 n0 _ T86.heap _
        rw [eq86]
        exact ⟨rfl, N86⟩
set_option maxRecDepth 65536 in
set_option maxHeartbeats 40000000 in
theorem comes_1 {Post : Tables → Env → Array Value → State → Outcome → State → Prop} (hpost : ∀ tb e args s v u, (limb_1_1.after args s (.returned v) u = true ∧ limb_1_2.after args s (.returned v) u = true ∧ True) → FrameEnd s (.returned v) u (Jvm.fieldLocs frame_1_writes args s ++ Jvm.arrayLocs frame_1_arrays args s ++ Jvm.staticLocs frame_1_statics s) 0 0 → Post tb e args s (.returned v) u) :
    ArmFor flags0 classFile x code maxLocals ret World_1 tables_1 room_1 Calls_1 rest_1 Pre_1 Post := by
  intro l hfl _ _ p e ha hc hk s m args below hf hA hF happ hP
  obtain ⟨hcalls, hrest, hpre⟩ := hP
  obtain ⟨-, -, -, hnamed, -, -, -, hat⟩ := (Spec.applies_iff hf).mp happ
  obtain ⟨hg, hn⟩ := and_e (Cond.before_iff.mp (show (Jvm.Cond.and given_1 narrow_1).before args s = true from hpre))
  obtain ⟨gg1, gg2⟩ := and_e hg
  obtain ⟨w0, rfl⟩ : ∃ w0 : Value, args = #[w0] := by
    have hs : args.size = 1 := by simpa [Cond.value, given_1] using gg1
    obtain ⟨L⟩ := args
    match L, hs with
    | [w0], _ => exact ⟨w0, rfl⟩
  have hw := fun d (hd : d ∈ tables_1) => atoms_spec (ws := Jvm.Cond.code x code maxLocals ret :: tables_1) hat d (List.mem_cons_of_mem _ hd)
  have hfit : Fit s := fun {y c} hc i hi => by
    obtain ⟨ha, rfl⟩ := Array.getElem?_eq_some_iff.mp hc
    have q := List.all_eq_true.mp ((Array.all_eq_true_iff_forall_mem.mp hF) _ (Array.getElem_mem ha)) i (List.mem_range.mpr hi)
    simpa [Array.getElem?_eq_getElem hi] using q
  obtain ⟨i0, ei0⟩ := is_v gg2
  obtain rfl : w0 = (.int i0) := Option.some.inj ei0
  obtain ⟨n, o, h1, h2, h3, _, L, rfl, ⟨rfl, N⟩, hq⟩ := rm_law l s _ hw tables_1 i0  s.heap s.heap.size (Nat.le_refl _)  p e ha hc hk s m _ below hf ((Spec.applies_iff_loose hf).mp happ).1 ⟨rfl, State.Warmed39.refl s, rfl⟩ trivial
  refine ⟨n, _, h1, h2, h3, hpost _ _ _ _ _ _ ⟨Cond.after_iff.mpr rfl, Cond.after_iff.mpr (eq_i res_at (Term.int_eval (1)) rfl), trivial⟩ ⟨hq.1, hq.2.1, (hq.2.2.sift fun y hy => Or.inr (N y hy)).mono (by decide) (by decide)⟩⟩
theorem main_1_1 : Claimed_1_1 := comes_1 fun _ _ _ _ _ _ h hF => ⟨h.1, hF⟩
theorem main_1_2 : Claimed_1_2 := comes_1 fun _ _ _ _ _ _ h hF => ⟨h.2.1, hF⟩
end Jvm.Pilot.@@N@@
namespace Jvm.Pilot.@@N@@
open Jvm Jvm.ClassFile Sem Op Lib Jvm.Free Jvm.Stand Jvm.Pilot.@@N@@.Jvm.D
/-! MADE BY PROGRAM (witnessworld.py) out of the Statement's table words and the real class files: 7 classes; the members and pool entries that the words name. The judged class is class 1, her method 1. -/
namespace start1
open Jvm.ClassFile
def u (s : String) : CpInfo := .utf8 (stringToUtf16 s)
/-- a pool by its gaps: so many unusable entries, then the entry; so many at the end -/
def gap : Nat → List CpInfo → List CpInfo
  | 0, r => r
  | n + 1, r => .unusable :: gap n r
def poolList (es : List (Nat × CpInfo)) (last : Nat) : List CpInfo := es.foldr (fun e r => gap e.1 (e.2 :: r)) (gap last [])
def pool (es : List (Nat × CpInfo)) (last : Nat) : Array CpInfo := ⟨poolList es last⟩
def fileOf (pool : Array CpInfo) (this : Nat) (attrs : Array Attribute := #[]) (ms : Array MethodInfo := #[]) (fl : Nat := 33) (sup : Nat := 0) (ifs : Array Nat := #[]) (fds : Array FieldInfo := #[]) : ClassFile where
  minorVersion := 0
  majorVersion := 65
  constantPool := pool
  accessFlags := fl
  thisClass := this
  superClass := sup
  interfaces := ifs
  fields := fds
  methods := ms
  attributes := attrs
def plain (name : String) (sup : Option ClassId) : Class where
  name := name
  kind := .ordinary
  loader := none
  accessFlags := 33
  super := sup
  interfaces := #[]
  cf := none
  fields := #[]
  methods := #[]
  instanceTypes := #[]
  staticTypes := #[]
  resolved := #[]
  callSites := []
  init := .initialized
  statics := none
  mirror := none

def pool0 : Array CpInfo := pool [(5, u "<init>"), (0, u "()V"), (1, .class_ 10), (1, u "java/lang/Object")] 113

def k0m0 : Method := { name := "<init>", desc := "()V", sig := { parameters := [], returnType := none }, accessFlags := 1, code := none }
/-- java/lang/Object -/
def k0 : Class := { plain "java/lang/Object" none with
  accessFlags := 33
  interfaces := #[]
  cf := some (fileOf pool0 8 #[] #[{ accessFlags := 1, nameIndex := 5, descriptorIndex := 6, attributes := #[] }] 33 0 #[] #[])
  fields := #[]
  methods := #[k0m0]
  instanceTypes := #[]
  staticTypes := #[]
  resolved := Array.replicate 124 none
  statics := none }

def pool1 : Array CpInfo := pool [(2, .class_ 4), (1, u "java/lang/Object"), (0, u "<init>"), (0, u "()V"), (0, .integer 65535), (0, .methodref 9 10), (0, .class_ 11), (0, .nameAndType 12 13), (0, u "com/example/datumbridge/datumbridge/cli/InputLines"), (0, u "isBlank"), (0, u "(C)Z"), (0, .class_ 15), (0, u "com/example/datumbridge/datumbridge/cli/InputLinesIsBlankPinLaw"), (2, u "law"), (0, u "(I)Z")] 3

def k1m0 : Method := { name := "<init>", desc := "()V", sig := { parameters := [], returnType := none }, accessFlags := 2, code := none }
def k1c1 : Code := { maxStack := 2, maxLocals := 3, code := code, exceptionTable := #[], attributes := #[] }
def k1m1 : Method := { name := "law", desc := "(I)Z", sig := { parameters := [.int], returnType := some .boolean }, accessFlags := 9, code := some k1c1 }
/-- com/example/datumbridge/datumbridge/cli/InputLinesIsBlankPinLaw -/
def k1 : Class := { plain "com/example/datumbridge/datumbridge/cli/InputLinesIsBlankPinLaw" (some 0) with
  accessFlags := 49
  interfaces := #[]
  cf := some (fileOf pool1 14 #[] #[{ accessFlags := 2, nameIndex := 5, descriptorIndex := 6, attributes := #[] }, { accessFlags := 9, nameIndex := 18, descriptorIndex := 19, attributes := #[] }] 49 2 #[] #[])
  fields := #[]
  methods := #[k1m0, k1m1]
  instanceTypes := #[]
  staticTypes := #[]
  resolved := Array.replicate 23 none
  statics := none }

def pool2 : Array CpInfo := pool [(1, .class_ 2), (0, u "com/example/datumbridge/datumbridge/cli/InputLines"), (1, .class_ 6), (1, u "java/lang/Object"), (0, u "<init>"), (0, u "()V"), (53, .class_ 63), (0, u "com/example/datumbridge/datumbridge/cli/InputLines$LineReader"), (14, .class_ 80), (1, u "com/example/datumbridge/datumbridge/cli/InputLines$LineHandler"), (30, u "isBlank"), (0, u "(C)Z"), (0, u "BYTE_ORDER_MARK"), (0, u "Ljava/lang/String;"), (1, u "BUFFER_SIZE"), (0, u "I"), (1, u "MAX_LINE"), (1, u "TOO_LONG")] 34

def k2m0 : Method := { name := "<init>", desc := "()V", sig := { parameters := [], returnType := none }, accessFlags := 2, code := none }
def k2c1 : Code := { maxStack := 2, maxLocals := 1, code := prog_9_method_6_code, exceptionTable := #[], attributes := #[] }
def k2m1 : Method := { name := "isBlank", desc := "(C)Z", sig := { parameters := [.char], returnType := some .boolean }, accessFlags := 8, code := some k2c1 }
/-- com/example/datumbridge/datumbridge/cli/InputLines -/
def k2 : Class := { plain "com/example/datumbridge/datumbridge/cli/InputLines" (some 0) with
  accessFlags := 48
  interfaces := #[]
  cf := some (fileOf pool2 1 #[.nestMembers #[62, 78]] #[{ accessFlags := 2, nameIndex := 7, descriptorIndex := 8, attributes := #[] }, { accessFlags := 8, nameIndex := 111, descriptorIndex := 112, attributes := #[] }] 48 4 #[] #[{ accessFlags := 26, nameIndex := 113, descriptorIndex := 114, attributes := #[] }, { accessFlags := 26, nameIndex := 116, descriptorIndex := 117, attributes := #[] }, { accessFlags := 24, nameIndex := 119, descriptorIndex := 117, attributes := #[] }, { accessFlags := 26, nameIndex := 121, descriptorIndex := 114, attributes := #[] }])
  fields := #[{ name := "BYTE_ORDER_MARK", type := (.object "java/lang/String"), accessFlags := 26, slot := 0, constantValue := 0 }, { name := "BUFFER_SIZE", type := .int, accessFlags := 26, slot := 1, constantValue := 0 }, { name := "MAX_LINE", type := .int, accessFlags := 24, slot := 2, constantValue := 0 }, { name := "TOO_LONG", type := (.object "java/lang/String"), accessFlags := 26, slot := 3, constantValue := 0 }]
  methods := #[k2m0, k2m1]
  instanceTypes := #[]
  staticTypes := #[(.object "java/lang/String"), .int, .int, (.object "java/lang/String")]
  resolved := Array.replicate 156 none
  statics := none }

def pool3 : Array CpInfo := pool [(1, u "java/lang/Cloneable"), (0, .class_ 1), (0, u "java/lang/Object"), (0, .class_ 3)] 3

/-- java/lang/Cloneable -/
def k3 : Class := { plain "java/lang/Cloneable" (some 0) with
  accessFlags := 1537
  interfaces := #[]
  cf := some (fileOf pool3 2 #[] #[] 1537 4 #[] #[])
  fields := #[]
  methods := #[]
  instanceTypes := #[]
  staticTypes := #[]
  resolved := Array.replicate 8 none
  statics := none }

def pool4 : Array CpInfo := pool [(1, u "java/io/Serializable"), (0, .class_ 1), (0, u "java/lang/Object"), (0, .class_ 3)] 3

/-- java/io/Serializable -/
def k4 : Class := { plain "java/io/Serializable" (some 0) with
  accessFlags := 1537
  interfaces := #[]
  cf := some (fileOf pool4 2 #[] #[] 1537 4 #[] #[])
  fields := #[]
  methods := #[]
  instanceTypes := #[]
  staticTypes := #[]
  resolved := Array.replicate 8 none
  statics := none }

/-- the primitive byte -/
def k5 : Class := { plain "byte" none with kind := .primitive 'B', accessFlags := 0x411 }
/-- [B -/
def k6 : Class := { plain "[B" (some 0) with kind := .array 5 .byte, interfaces := #[3, 4], accessFlags := 1041 }

def heap : Heap := #[]
def classes : Array Class := #[k0, k1, k2, k3, k4, k5, k6]
def interned : List (Array UInt16 × Addr) := []
def slotsUsed : Nat := 0
def theMethod : MethodId := ⟨1, 1⟩
def args0 : Array Value := #[.int 5]
def aboutOver (below : List Frame) : State where
  vm := { classes := classes, interned := interned.toArray }
  heap := heap
  slotsUsed := slotsUsed
  threads := #[{ frames := .invoking theMethod args0 :: below }]
def below0 : List Frame := [.native { method := ⟨0, 0⟩, args := #[] }]
def about1 : State := aboutOver below0
def p0 : Program := .bare "" "" ""
def e0 : Env := launch0.env 0 0 0
theorem w_frames : about1.frames = Frame.invoking theMethod args0 :: below0 := rfl
set_option maxRecDepth 65536 in
theorem w_args : argsFit about1.vm theMethod args0 = true := by decide +kernel
set_option maxRecDepth 65536 in
theorem w_heap : heapFits about1 = true := by decide +kernel
set_option maxRecDepth 65536 in
theorem w_runnable : about1.curStatus? = some .runnable := by decide +kernel
set_option maxRecDepth 65536 in
theorem w_alone : about1.alone = true := by decide +kernel
set_option maxRecDepth 65536 in
theorem w_named : about1.methodNamed? x = some theMethod := by decide +kernel
set_option maxRecDepth 65536 in
theorem w_hears : about1.hears theMethod below0 = true := by decide +kernel
set_option maxRecDepth 65536 in
theorem w_ripe : about1.ripe theMethod args0 below0 = true := by decide +kernel
theorem w_running : about1.status = .running := rfl
set_option maxRecDepth 65536 in
theorem w_room : about1.hasRoom e0.platform room_1 = true :=
  launch0.hasRoom_least _ room_1 (by decide +kernel) (by decide +kernel) (by decide +kernel) (by decide +kernel) (by decide +kernel) (by decide +kernel)
theorem allAtoms_all (ts : List Jvm.Cond) (a : Array Jvm.Value) (st : Jvm.State) : (allAtoms ts).before a st = ts.all (fun c => c.before a st) := by
  induction ts with
  | nil => rfl
  | cons c t ih =>
    show (Jvm.Cond.and c (allAtoms t)).before a st = _
    rw [Jvm.Cond.before_and, ih, List.all_cons]
def words1 : List Jvm.Cond := Jvm.Cond.code x code maxLocals ret :: tables_1
/-- a 'code' word, met by the world's own term for the bytes: nothing is compared byte by byte -/
theorem code_word {y : MethodName} {bytes : ByteArray} {mx : Nat} {rt : Option FieldType} {a : Array Value} {s : State} {m : MethodId} {meth : Method} {c : Code} (h1 : s.methodNamed? y = some m) (h2 : s.vm.method? m = some meth) (h3 : meth.code = some c) (h4 : c.code = bytes)
    (h5 : (c.maxLocals == mx && c.exceptionTable.isEmpty && decide (c.maxStack ≤ mostOperands) && decide (meth.sig.returnType = rt) && !meth.locks && decide (parseMethodDescriptor y.desc = some meth.sig)) = true) : (Jvm.Cond.code y bytes mx rt).before a s = true := by
  simp only [Bool.and_eq_true, beq_iff_eq, Bool.not_eq_true', decide_eq_true_eq] at h5
  obtain ⟨⟨⟨⟨⟨g1, g2⟩, g3⟩, g4⟩, g5⟩, g6⟩ := h5
  simp [Cond.before, Cond.holds, Cond.value, h1, h2, h3, h4, g1, g2, g3, g4, g5, g6]
def isCode : Jvm.Cond → Bool
  | .code _ _ _ _ => true
  | _ => false
theorem all_split {L : List Jvm.Cond} {P : Jvm.Cond → Bool} (h1 : L.all (fun c => isCode c || P c) = true) (h2 : ∀ c ∈ L.filter isCode, P c = true) : L.all P = true := by
  refine List.all_eq_true.mpr fun c hc => ?_
  have h := List.all_eq_true.mp h1 c hc
  rcases Bool.eq_false_or_eq_true (isCode c) with hi | hi
  · exact h2 c (List.mem_filter.mpr ⟨hc, hi⟩)
  · simpa [hi] using h
set_option maxRecDepth 65536 in
theorem w_c0 : (Jvm.Cond.code x code maxLocals ret).before args0 about1 = true := code_word (m := ⟨1, 1⟩) (meth := k1m1) (c := k1c1) (by decide +kernel) rfl rfl rfl (by decide +kernel)
set_option maxRecDepth 65536 in
theorem w_c1 : (Jvm.Cond.code ({ cls := "com/example/datumbridge/datumbridge/cli/InputLines", name := "isBlank", desc := "(C)Z" } : Jvm.MethodName) prog_9_method_6_code (1 : Nat) (Option.some Jvm.ClassFile.FieldType.boolean)).before args0 about1 = true := code_word (m := ⟨2, 1⟩) (meth := k2m1) (c := k2c1) (by decide +kernel) rfl rfl rfl (by decide +kernel)
def codes1 : List Jvm.Cond := [Jvm.Cond.code x code maxLocals ret, Jvm.Cond.code ({ cls := "com/example/datumbridge/datumbridge/cli/InputLines", name := "isBlank", desc := "(C)Z" } : Jvm.MethodName) prog_9_method_6_code (1 : Nat) (Option.some Jvm.ClassFile.FieldType.boolean)]
set_option maxRecDepth 65536 in
theorem codes_eq : words1.filter isCode = codes1 := rfl
theorem w_codes : ∀ c ∈ words1.filter isCode, c.before args0 about1 = true := by
  rw [codes_eq]
  intro c hc
  simp only [codes1, List.mem_cons, List.not_mem_nil, or_false] at hc
  rcases hc with rfl | rfl
  · exact w_c0
  · exact w_c1
set_option maxRecDepth 65536 in
theorem w_t1 : words1.all (fun c => isCode c || c.before args0 about1) = true := by decide +kernel
theorem w_tables : (allAtoms (Jvm.Cond.code x code maxLocals ret :: tables_1)).before args0 about1 = true := by
  rw [allAtoms_all]
  show words1.all (fun c => c.before args0 about1) = true
  refine all_split ?_ w_codes
  rw [w_t1]
set_option maxRecDepth 65536 in
theorem w_case : (Jvm.Cond.and given_1 narrow_1).before args0 about1 = true := by decide +kernel
theorem w_applies : (headSpec (Jvm.Cond.code x code maxLocals ret :: tables_1) room_1).applies x e0.platform about1 = true :=
  (Spec.applies_iff w_frames).mpr ⟨w_running, w_runnable, w_alone, w_named, w_hears, w_ripe, w_room, w_tables⟩
theorem atStart : AtStart classFile x code maxLocals ret World_1 tables_1 room_1 Calls_1 rest_1 Pre_1 launch0 p0 e0 about1 theMethod args0 below0 :=
  ⟨lists_1, trivial, launch0.admits_env _ _ _, launch0.least_env, fairChoices_fair.cas, fairChoices_fair.clock, w_frames, w_args, w_heap, w_applies, trivial, trivial, w_case⟩
end start1
theorem witness_1 : WitnessClaimed_1 := ⟨start1.p0, start1.e0, start1.about1, start1.theMethod, start1.args0, start1.below0, start1.atStart⟩
end Jvm.Pilot.@@N@@
