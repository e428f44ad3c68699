import JvmDerived
import JvmDerived.Pilot.@@N@@Statement
import JvmDerived.Pilot.@@N@@Code
set_option linter.unusedVariables false
set_option linter.unusedSimpArgs false
namespace Jvm.Pilot.@@N@@
open Jvm Jvm.ClassFile Sem Op Lib Jvm.Free Jvm.Stand Jvm.LawKit Jvm.RoadKit Bundle Jvm.Pilot.@@N@@.Jvm.D
abbrev own_Go (p : Program) (e : Env) (below : List Frame) (A B : State) : Prop := ∀ t, Steps p.tables e below A t → Steps p.tables e below B t

theorem own_dg (x : Int32) : (2 + (x &&& 2147483647) % 3) = 2 ∨ (2 + (x &&& 2147483647) % 3) = 3 ∨ (2 + (x &&& 2147483647) % 3) = 4 := by
  have h1 := c_mask x 2147483647 31 (by decide) (by decide)
  have h2 := c_irem (x &&& 2147483647) 3 3 rfl
  have h3 := c_iadd 2 ((x &&& 2147483647) % 3)
  have r := rng32 (2 + (x &&& 2147483647) % 3)
  have e2 : (2 : Int32).toInt = 2 := rfl
  have e3 : (3 : Int32).toInt = 3 := rfl
  have e4 : (4 : Int32).toInt = 4 := rfl
  rw [e2] at h3
  simp only [← Int32.toInt_inj, e2, e3, e4]
  generalize (2 + (x &&& 2147483647) % 3).toInt = A at *
  generalize ((x &&& 2147483647) % 3).toInt = B at *
  generalize (x &&& 2147483647).toInt = C at *
  generalize x.toInt = D at *
  have hC : 0 ≤ C := by rw [h1]; exact Int.emod_nonneg _ (by decide)
  have hB := h2.1 hC
  omega

theorem own_pn0 : plainName "com/example/datumbridge/datumbridge/operation/PolynomialTransformation" = true := by first | (simp [plainName, overriddenIn]; done) | decide +kernel
theorem own_ef1_I (m : MethodId) (x0 : Int32) : entryFrame m #[(.int x0)] 1 = mkF m 0 #[.val (.int x0)] [] := by first | (simp [entryFrame, mkF, argsToLocals, Value.category]; done) | rfl
theorem d1_0 : decode prog_42_method_2_code 0 = .ok (.iload_n 0, 1) := by decide +kernel
theorem d1_1 : decode prog_42_method_2_code 1 = .ok (.iconst 2, 1) := by decide +kernel
theorem d1_2 : decode prog_42_method_2_code 2 = .ok (.if_icmp .lt 8, 3) := by decide +kernel
theorem d1_5 : decode prog_42_method_2_code 5 = .ok (.iload_n 0, 1) := by decide +kernel
theorem d1_6 : decode prog_42_method_2_code 6 = .ok (.iconst 4, 1) := by decide +kernel
theorem d1_7 : decode prog_42_method_2_code 7 = .ok (.if_icmp .le 17, 3) := by decide +kernel
theorem d1_24 : decode prog_42_method_2_code 24 = .ok (.iload_n 0, 1) := by decide +kernel
theorem d1_25 : decode prog_42_method_2_code 25 = .ok (.iconst 1, 1) := by decide +kernel
theorem d1_26 : decode prog_42_method_2_code 26 = .ok (.iadd, 1) := by decide +kernel
theorem d1_27 : decode prog_42_method_2_code 27 = .ok (.iload_n 0, 1) := by decide +kernel
theorem d1_28 : decode prog_42_method_2_code 28 = .ok (.iconst 2, 1) := by decide +kernel
theorem d1_29 : decode prog_42_method_2_code 29 = .ok (.iadd, 1) := by decide +kernel
theorem d1_30 : decode prog_42_method_2_code 30 = .ok (.imul, 1) := by decide +kernel
theorem d1_31 : decode prog_42_method_2_code 31 = .ok (.iconst 2, 1) := by decide +kernel
theorem d1_32 : decode prog_42_method_2_code 32 = .ok (.idiv, 1) := by decide +kernel
theorem d1_33 : decode prog_42_method_2_code 33 = .ok (.ireturn, 1) := by decide +kernel
theorem own_pn1 : plainName "com/example/datumbridge/datumbridge/operation/PolynomialTransformationTermsPinLaw" = true := by first | (simp [plainName, overriddenIn]; done) | decide +kernel
theorem own_ef0_I (m : MethodId) (x0 : Int32) : entryFrame m #[(.int x0)] maxLocals = mkF m 0 #[.val (.int x0), .unset, .unset] [] := by first | (simp [entryFrame, mkF, argsToLocals, Value.category, maxLocals]; done) | rfl
theorem own_pd0 : parseMethodDescriptor "(I)I" = some ⟨[.int], some .int⟩ := by decide +kernel
def Q_rm_terms (Z : State) (u : Int32) (h0 : Heap) (n0 : Nat) (v : Option Value) (h : Heap) (L : List Loc) : Prop := v = some (.int (((u + 1) * (u + 2)) / 2)) ∧ Fr n0 L ∧ h = h0
set_option maxRecDepth 65536 in
set_option maxHeartbeats 40000000 in
theorem rm_terms (l : Launch) (Z : State) (a0 : Array Value) (hw : ∀ d ∈ tables_1, d.before a0 Z = true) (ws : List Jvm.Cond) (u : Int32) (h0 : Heap) (n0 : Nat) (Z0 : n0 ≤ h0.size) (hu1 : ¬ u < (2 : Int32)) (hu2 : ¬ (4 : Int32) < u) :
    MetFree l (⟨"com/example/datumbridge/datumbridge/operation/PolynomialTransformation", "terms", "(I)I"⟩ : MethodName) (head1 (Jvm.Cond.code (⟨"com/example/datumbridge/datumbridge/operation/PolynomialTransformation", "terms", "(I)I"⟩ : MethodName) prog_42_method_2_code 1 (some .int) :: ws) ({ frames := 0, cells := 0, slots := 0, locals := 0 } : Room)) (fun a U => a = #[(.int u)] ∧ Z.Warmed39 U.vm ∧ U.heap = h0) (fun _ _ _ _ _ => True) (fun _ U o U' => ∃ v L, o = .returned v ∧ Q_rm_terms Z u h0 n0 v U'.heap L ∧ FrameEnd U o U' L ({ frames := 0, cells := 0, slots := 0, locals := 0 } : Room).cells ({ frames := 0, cells := 0, slots := 0, locals := 0 } : Room).slots) := by
  refine MetFree.of_bodySF (plainFor_of_name own_pn0) hisR ?_
  intro p e s m args below meth c s₁ Bd hml0 hP hK
  obtain ⟨rfl, hZ, hh⟩ := hP
  have hx := Bd.exec
  have hby := Bd.bytes
  have hml : c.maxLocals = 1 := hml0
  have hown : s.vm.findClass "com/example/datumbridge/datumbridge/operation/PolynomialTransformation" = some m.cls := findClass_of_methodNamed Bd.named
  have hnm := (name_of_methodNamed Bd.named Bd.method).1
  have X0 : Stand p l e ({ frames := 0, cells := 0, slots := 0, locals := 0 } : Room) s m #[(.int u)] below meth c s₁ [] 0 0 := Stand.of_body Bd
  have e0 : s₁.heap = h0 := by rw [← hh, Bd.state]; rfl
  have N0 := Fr.nil n0
  have st0 : own_Go p e below (s₁.setTop (mkF m 0 #[.val (.int u)] [])) (s₁.setTop (entryFrame m #[(.int u)] 1)) := fun t k => castTop (own_ef1_I m u) k
  have hc1 : ¬ (u < (2 : Int32)) := hu1
  have hc2 : ¬ ((4 : Int32) < u) := hu2
  have st3 : own_Go p e below (s₁.setTop (mkF m 33 #[.val (.int u)] [(.int (((u + (1 : Int32)) * (u + (2 : Int32))) / (2 : Int32)))])) (s₁.setTop (entryFrame m #[(.int u)] 1)) := fun t kt => st0 t (by
    show Steps p.tables e below (s₁.setTop (mkF m 0 #[.val (.int u)] [])) _
    refine XS.iloadN X0.here hx rfl (hb hby d1_0) rfl ?_
    show Steps p.tables e below (s₁.setTop (mkF m 1 #[.val (.int u)] [(.int u)])) _
    refine XS.iconst X0.here hx rfl (hb hby d1_1) ?_
    show Steps p.tables e below (s₁.setTop (mkF m 2 #[.val (.int u)] [(.int (2 : Int32)), (.int u)])) _
    refine XS.icmpNo X0.here hx rfl (hb hby d1_2) rfl (flt hc1).1 ?_
    show Steps p.tables e below (s₁.setTop (mkF m 5 #[.val (.int u)] [])) _
    refine XS.iloadN X0.here hx rfl (hb hby d1_5) rfl ?_
    show Steps p.tables e below (s₁.setTop (mkF m 6 #[.val (.int u)] [(.int u)])) _
    refine XS.iconst X0.here hx rfl (hb hby d1_6) ?_
    show Steps p.tables e below (s₁.setTop (mkF m 7 #[.val (.int u)] [(.int (4 : Int32)), (.int u)])) _
    refine XS.icmpYes X0.here hx rfl (pc0 := 7) (pc' := 24) rfl (hb hby d1_7) rfl (flt hc2).2.2.2 (by decide) (by decide) ?_
    show Steps p.tables e below (s₁.setTop (mkF m 24 #[.val (.int u)] [])) _
    refine XS.iloadN X0.here hx rfl (hb hby d1_24) rfl ?_
    show Steps p.tables e below (s₁.setTop (mkF m 25 #[.val (.int u)] [(.int u)])) _
    refine XS.iconst X0.here hx rfl (hb hby d1_25) ?_
    show Steps p.tables e below (s₁.setTop (mkF m 26 #[.val (.int u)] [(.int (1 : Int32)), (.int u)])) _
    refine XS.iadd X0.here hx rfl (hb hby d1_26) rfl ?_
    show Steps p.tables e below (s₁.setTop (mkF m 27 #[.val (.int u)] [(.int (u + (1 : Int32)))])) _
    refine XS.iloadN X0.here hx rfl (hb hby d1_27) rfl ?_
    show Steps p.tables e below (s₁.setTop (mkF m 28 #[.val (.int u)] [(.int u), (.int (u + (1 : Int32)))])) _
    refine XS.iconst X0.here hx rfl (hb hby d1_28) ?_
    show Steps p.tables e below (s₁.setTop (mkF m 29 #[.val (.int u)] [(.int (2 : Int32)), (.int u), (.int (u + (1 : Int32)))])) _
    refine XS.iadd X0.here hx rfl (hb hby d1_29) rfl ?_
    show Steps p.tables e below (s₁.setTop (mkF m 30 #[.val (.int u)] [(.int (u + (2 : Int32))), (.int (u + (1 : Int32)))])) _
    refine XS.imul X0.here hx rfl (hb hby d1_30) rfl ?_
    show Steps p.tables e below (s₁.setTop (mkF m 31 #[.val (.int u)] [(.int ((u + (1 : Int32)) * (u + (2 : Int32))))])) _
    refine XS.iconst X0.here hx rfl (hb hby d1_31) ?_
    show Steps p.tables e below (s₁.setTop (mkF m 32 #[.val (.int u)] [(.int (2 : Int32)), (.int ((u + (1 : Int32)) * (u + (2 : Int32))))])) _
    refine XS.idiv X0.here hx rfl (hb hby d1_32) rfl (by decide) ?_
    show Steps p.tables e below (s₁.setTop (mkF m 33 #[.val (.int u)] [(.int (((u + (1 : Int32)) * (u + (2 : Int32))) / (2 : Int32)))])) _
    exact kt)
  obtain ⟨fs, hr, hrun, hended, hW, hsame⟩ := X0.leave (v := (some (.int (((u + (1 : Int32)) * (u + (2 : Int32))) / (2 : Int32))))) (fun h => by rw [Bd.returns] at h; cases h)
  refine ⟨_, _, st3 _ ?_, hrun, hended, _, _, rfl, ?_, ⟨_, rfl⟩, hW, hsame.mono (by decide) (by decide)⟩
  · exact retOut X0 hx Bd.returns rfl (Or.inl ⟨rfl, Or.inl rfl, _, rfl⟩) (hb hby d1_33) hr
  · show Q_rm_terms Z u h0 n0 _ s₁.heap _
    rw [e0]
    exact ⟨rfl, N0, rfl⟩
def Q_rm_law (Z : State) (ua : Int32) (h0 : Heap) (n0 : Nat) (v : Option Value) (h : Heap) (L : List Loc) : Prop := v = some (.int 1) ∧ Fr n0 L
set_option maxRecDepth 65536 in
set_option maxHeartbeats 40000000 in
theorem rm_law (l : Launch) (Z : State) (a0 : Array Value) (hw : ∀ d ∈ tables_1, d.before a0 Z = true) (ws : List Jvm.Cond) (ua : Int32) (h0 : Heap) (n0 : Nat) (Z0 : n0 ≤ h0.size) :
    MetFree l x (head1 (Jvm.Cond.code x code maxLocals ret :: ws) room_1) (fun a U => a = #[(.int ua)] ∧ Z.Warmed39 U.vm ∧ U.heap = h0) (fun _ _ _ _ _ => True) (fun _ U o U' => ∃ v L, o = .returned v ∧ Q_rm_law Z ua h0 n0 v U'.heap L ∧ FrameEnd U o U' L room_1.cells room_1.slots) := by
  refine MetFree.of_bodySF (plainFor_of_name own_pn1) hisR ?_
  intro p e s m args below meth c s₁ Bd hml0 hP hK
  obtain ⟨rfl, hZ, hh⟩ := hP
  have hx := Bd.exec
  have hby := Bd.bytes
  have hml : c.maxLocals = 3 := hml0
  have hown : s.vm.findClass "com/example/datumbridge/datumbridge/operation/PolynomialTransformationTermsPinLaw" = some m.cls := findClass_of_methodNamed Bd.named
  have hnm := (name_of_methodNamed Bd.named Bd.method).1
  have X0 : Stand p l e room_1 s m #[(.int ua)] below meth c s₁ [] 0 0 := Stand.of_body Bd
  have e0 : s₁.heap = h0 := by rw [← hh, Bd.state]; rfl
  have N0 := Fr.nil n0
  have st0 : own_Go p e below (s₁.setTop (mkF m 0 #[.val (.int ua), .unset, .unset] [])) (s₁.setTop (entryFrame m #[(.int ua)] maxLocals)) := fun t k => castTop (own_ef0_I m ua) k
  obtain ⟨dg, h_dg⟩ : ∃ z : Int32, z = ((2 : Int32) + ((ua &&& (2147483647 : Int32)) % (3 : Int32))) := ⟨_, rfl⟩
  have st1 : own_Go p e below (s₁.setTop (mkF m 11 #[.val (.int ua), .val (.int dg), .unset] [(.int (2 : Int32)), (.int dg)])) (s₁.setTop (entryFrame m #[(.int ua)] maxLocals)) := fun t kt => st0 t (by
    show Steps p.tables e below (s₁.setTop (mkF m 0 #[.val (.int ua), .unset, .unset] [])) _
    refine XS.iconst X0.here hx rfl (hb hby at_0) ?_
    show Steps p.tables e below (s₁.setTop (mkF m 1 #[.val (.int ua), .unset, .unset] [(.int (2 : Int32))])) _
    refine XS.iloadN X0.here hx rfl (hb hby at_1) rfl ?_
    show Steps p.tables e below (s₁.setTop (mkF m 2 #[.val (.int ua), .unset, .unset] [(.int ua), (.int (2 : Int32))])) _
    refine X0.ldcInt hx hown (mvT hZ (hw _ (List.mem_of_getElem? (i := 0) rfl))) (g := (mkF m 2 #[.val (.int ua), .unset, .unset] [(.int ua), (.int (2 : Int32))])) rfl (hb hby at_2) _ ?_
    show Steps p.tables e below (s₁.setTop (mkF m 4 #[.val (.int ua), .unset, .unset] [(.int (2147483647 : Int32)), (.int ua), (.int (2 : Int32))])) _
    refine XS.iand X0.here hx rfl (hb hby at_4) rfl ?_
    show Steps p.tables e below (s₁.setTop (mkF m 5 #[.val (.int ua), .unset, .unset] [(.int (ua &&& (2147483647 : Int32))), (.int (2 : Int32))])) _
    refine XS.iconst X0.here hx rfl (hb hby at_5) ?_
    show Steps p.tables e below (s₁.setTop (mkF m 6 #[.val (.int ua), .unset, .unset] [(.int (3 : Int32)), (.int (ua &&& (2147483647 : Int32))), (.int (2 : Int32))])) _
    refine iremM X0 hx rfl (hb hby at_6) rfl (by decide) ?_
    show Steps p.tables e below (s₁.setTop (mkF m 7 #[.val (.int ua), .unset, .unset] [(.int ((ua &&& (2147483647 : Int32)) % (3 : Int32))), (.int (2 : Int32))])) _
    refine XS.iadd X0.here hx rfl (hb hby at_7) rfl ?_
    show Steps p.tables e below (s₁.setTop (mkF m 8 #[.val (.int ua), .unset, .unset] [(.int ((2 : Int32) + ((ua &&& (2147483647 : Int32)) % (3 : Int32))))])) _
    rw [← h_dg]
    show Steps p.tables e below (s₁.setTop (mkF m 8 #[.val (.int ua), .unset, .unset] [(.int dg)])) _
    refine XS.istoreN X0.here hx rfl (hb hby at_8) rfl (l' := #[.val (.int ua), .val (.int dg), .unset]) rfl ?_
    show Steps p.tables e below (s₁.setTop (mkF m 9 #[.val (.int ua), .val (.int dg), .unset] [])) _
    refine XS.iloadN X0.here hx rfl (hb hby at_9) rfl ?_
    show Steps p.tables e below (s₁.setTop (mkF m 10 #[.val (.int ua), .val (.int dg), .unset] [(.int dg)])) _
    refine XS.iconst X0.here hx rfl (hb hby at_10) ?_
    show Steps p.tables e below (s₁.setTop (mkF m 11 #[.val (.int ua), .val (.int dg), .unset] [(.int (2 : Int32)), (.int dg)])) _
    exact kt)
  by_cases q1 : dg = (2 : Int32)
  · have q4 : dg = 2 := q1
    have st2 : own_Go p e below (s₁.setTop (mkF m 35 #[.val (.int ua), .val (.int dg), .val (.int (6 : Int32))] [(.int dg)])) (s₁.setTop (entryFrame m #[(.int ua)] maxLocals)) := fun t kt => st1 t (by
      show Steps p.tables e below (s₁.setTop (mkF m 11 #[.val (.int ua), .val (.int dg), .unset] [(.int (2 : Int32)), (.int dg)])) _
      refine XS.icmpNo X0.here hx rfl (hb hby at_11) rfl (teq q1).2 ?_
      show Steps p.tables e below (s₁.setTop (mkF m 14 #[.val (.int ua), .val (.int dg), .unset] [])) _
      refine XS.bipush X0.here hx rfl (hb hby at_14) ?_
      show Steps p.tables e below (s₁.setTop (mkF m 16 #[.val (.int ua), .val (.int dg), .unset] [(.int (6 : Int32))])) _
      refine XS.istoreN X0.here hx rfl (hb hby at_16) rfl (l' := #[.val (.int ua), .val (.int dg), .val (.int (6 : Int32))]) rfl ?_
      show Steps p.tables e below (s₁.setTop (mkF m 17 #[.val (.int ua), .val (.int dg), .val (.int (6 : Int32))] [])) _
      refine XS.goto X0.here hx rfl (pc0 := 17) (pc' := 34) rfl (hb hby at_17) (by decide) (by decide) ?_
      show Steps p.tables e below (s₁.setTop (mkF m 34 #[.val (.int ua), .val (.int dg), .val (.int (6 : Int32))] [])) _
      refine XS.iloadN X0.here hx rfl (hb hby at_34) rfl ?_
      show Steps p.tables e below (s₁.setTop (mkF m 35 #[.val (.int ua), .val (.int dg), .val (.int (6 : Int32))] [(.int dg)])) _
      exact kt)
    obtain ⟨_, _, ⟨T3, L3, k3, n3⟩, -, X3, ⟨Lc3, hQ3, l3, y3, z3⟩, ls3⟩ := Jvm.LawKit.callS X0 hx (y := (⟨"com/example/datumbridge/datumbridge/operation/PolynomialTransformation", "terms", "(I)I"⟩ : MethodName)) hown (mvT hZ (hw _ (List.mem_of_getElem? (i := 1) rfl))) (mvT hZ (hw _ (List.mem_of_getElem? (i := 2) rfl))) (mvT hZ (hw _ (List.mem_of_getElem? (i := 3) rfl))) (mvT hZ (hw _ (List.mem_of_getElem? (i := 4) rfl))) (by decide) (backOf (W := 0) (rm_terms l Z a0 hw [] dg h0 n0 Z0 (by rw [q4]; decide) (by rw [q4]; decide)) hZ (hw _ (List.mem_of_getElem? (i := 4) rfl)) (hw _ (List.mem_of_getElem? (i := 3) rfl)) (by decide) (by decide)) (g := (mkF m 35 #[.val (.int ua), .val (.int dg), .val (.int (6 : Int32))] [(.int dg)])) rfl (by rw [hml]; rfl) (argsL := [(.int dg)]) (rest := []) (lenOf own_pd0 rfl) rfl (by show 2 * 0 + _ ≤ _; exact Nat.le_of_eq rfl) (hb hby at_35) (fun _ _ => ⟨rfl, e0, (by decide : 0 + 0 ≤ _), (by decide : 0 + 0 ≤ _)⟩)
    dsimp only [Pt.U, Pt.locs, Pt.cells, Pt.slots] at X3 l3 y3 z3 ls3 hQ3
    subst l3 y3 z3
    obtain ⟨rfl, Nq3, eq3⟩ := hQ3
    have N3 := Fr.app N0 Nq3
    have st4 : own_Go p e below (T3.setTop (mkF m 38 #[.val (.int ua), .val (.int dg), .val (.int (6 : Int32))] [(.int (((dg + 1) * (dg + 2)) / 2))])) (s₁.setTop (entryFrame m #[(.int ua)] maxLocals)) := fun t kt => st2 t (ls3 t kt)
    have hc5 : (((dg + 1) * (dg + 2)) / 2) = (6 : Int32) := by rw [q4]; decide
    have st6 : own_Go p e below (T3.setTop (mkF m 47 #[.val (.int ua), .val (.int dg), .val (.int (6 : Int32))] [(.int (1 : Int32))])) (s₁.setTop (entryFrame m #[(.int ua)] maxLocals)) := fun t kt => st4 t (by
      show Steps p.tables e below (T3.setTop (mkF m 38 #[.val (.int ua), .val (.int dg), .val (.int (6 : Int32))] [(.int (((dg + 1) * (dg + 2)) / 2))])) _
      refine XS.iloadN X3.here hx rfl (hb hby at_38) rfl ?_
      show Steps p.tables e below (T3.setTop (mkF m 39 #[.val (.int ua), .val (.int dg), .val (.int (6 : Int32))] [(.int (6 : Int32)), (.int (((dg + 1) * (dg + 2)) / 2))])) _
      refine XS.icmpNo X3.here hx rfl (hb hby at_39) rfl (teq hc5).2 ?_
      show Steps p.tables e below (T3.setTop (mkF m 42 #[.val (.int ua), .val (.int dg), .val (.int (6 : Int32))] [])) _
      refine XS.iconst X3.here hx rfl (hb hby at_42) ?_
      show Steps p.tables e below (T3.setTop (mkF m 43 #[.val (.int ua), .val (.int dg), .val (.int (6 : Int32))] [(.int (1 : Int32))])) _
      refine XS.goto X3.here hx rfl (pc0 := 43) (pc' := 47) rfl (hb hby at_43) (by decide) (by decide) ?_
      show Steps p.tables e below (T3.setTop (mkF m 47 #[.val (.int ua), .val (.int dg), .val (.int (6 : Int32))] [(.int (1 : Int32))])) _
      exact kt)
    obtain ⟨fs, hr, hrun, hended, hW, hsame⟩ := X3.leave (v := (some (.int (1 : Int32)))) (fun h => by rw [Bd.returns] at h; cases h)
    refine ⟨_, _, st6 _ ?_, hrun, hended, _, _, rfl, ?_, ⟨_, rfl⟩, hW, hsame.mono (by decide) (by decide)⟩
    · exact retN X3 hx (t := .boolean) Bd.returns (by simp) (hb hby at_47) hr
    · show Q_rm_law Z ua h0 n0 _ T3.heap _
      rw [eq3]
      exact ⟨rfl, N3⟩
  · have st7 : own_Go p e below (s₁.setTop (mkF m 22 #[.val (.int ua), .val (.int dg), .unset] [(.int (3 : Int32)), (.int dg)])) (s₁.setTop (entryFrame m #[(.int ua)] maxLocals)) := fun t kt => st1 t (by
      show Steps p.tables e below (s₁.setTop (mkF m 11 #[.val (.int ua), .val (.int dg), .unset] [(.int (2 : Int32)), (.int dg)])) _
      refine XS.icmpYes X0.here hx rfl (pc0 := 11) (pc' := 20) rfl (hb hby at_11) rfl (feq q1).2 (by decide) (by decide) ?_
      show Steps p.tables e below (s₁.setTop (mkF m 20 #[.val (.int ua), .val (.int dg), .unset] [])) _
      refine XS.iloadN X0.here hx rfl (hb hby at_20) rfl ?_
      show Steps p.tables e below (s₁.setTop (mkF m 21 #[.val (.int ua), .val (.int dg), .unset] [(.int dg)])) _
      refine XS.iconst X0.here hx rfl (hb hby at_21) ?_
      show Steps p.tables e below (s₁.setTop (mkF m 22 #[.val (.int ua), .val (.int dg), .unset] [(.int (3 : Int32)), (.int dg)])) _
      exact kt)
    by_cases q2 : dg = (3 : Int32)
    · have q4 : dg = 3 := q2
      have st8 : own_Go p e below (s₁.setTop (mkF m 35 #[.val (.int ua), .val (.int dg), .val (.int (10 : Int32))] [(.int dg)])) (s₁.setTop (entryFrame m #[(.int ua)] maxLocals)) := fun t kt => st7 t (by
        show Steps p.tables e below (s₁.setTop (mkF m 22 #[.val (.int ua), .val (.int dg), .unset] [(.int (3 : Int32)), (.int dg)])) _
        refine XS.icmpNo X0.here hx rfl (hb hby at_22) rfl (teq q2).2 ?_
        show Steps p.tables e below (s₁.setTop (mkF m 25 #[.val (.int ua), .val (.int dg), .unset] [])) _
        refine XS.bipush X0.here hx rfl (hb hby at_25) ?_
        show Steps p.tables e below (s₁.setTop (mkF m 27 #[.val (.int ua), .val (.int dg), .unset] [(.int (10 : Int32))])) _
        refine XS.istoreN X0.here hx rfl (hb hby at_27) rfl (l' := #[.val (.int ua), .val (.int dg), .val (.int (10 : Int32))]) rfl ?_
        show Steps p.tables e below (s₁.setTop (mkF m 28 #[.val (.int ua), .val (.int dg), .val (.int (10 : Int32))] [])) _
        refine XS.goto X0.here hx rfl (pc0 := 28) (pc' := 34) rfl (hb hby at_28) (by decide) (by decide) ?_
        show Steps p.tables e below (s₁.setTop (mkF m 34 #[.val (.int ua), .val (.int dg), .val (.int (10 : Int32))] [])) _
        refine XS.iloadN X0.here hx rfl (hb hby at_34) rfl ?_
        show Steps p.tables e below (s₁.setTop (mkF m 35 #[.val (.int ua), .val (.int dg), .val (.int (10 : Int32))] [(.int dg)])) _
        exact kt)
      obtain ⟨_, _, ⟨T9, L9, k9, n9⟩, -, X9, ⟨Lc9, hQ9, l9, y9, z9⟩, ls9⟩ := Jvm.LawKit.callS X0 hx (y := (⟨"com/example/datumbridge/datumbridge/operation/PolynomialTransformation", "terms", "(I)I"⟩ : MethodName)) hown (mvT hZ (hw _ (List.mem_of_getElem? (i := 1) rfl))) (mvT hZ (hw _ (List.mem_of_getElem? (i := 2) rfl))) (mvT hZ (hw _ (List.mem_of_getElem? (i := 3) rfl))) (mvT hZ (hw _ (List.mem_of_getElem? (i := 4) rfl))) (by decide) (backOf (W := 0) (rm_terms l Z a0 hw [] dg h0 n0 Z0 (by rw [q4]; decide) (by rw [q4]; decide)) hZ (hw _ (List.mem_of_getElem? (i := 4) rfl)) (hw _ (List.mem_of_getElem? (i := 3) rfl)) (by decide) (by decide)) (g := (mkF m 35 #[.val (.int ua), .val (.int dg), .val (.int (10 : Int32))] [(.int dg)])) rfl (by rw [hml]; rfl) (argsL := [(.int dg)]) (rest := []) (lenOf own_pd0 rfl) rfl (by show 2 * 0 + _ ≤ _; exact Nat.le_of_eq rfl) (hb hby at_35) (fun _ _ => ⟨rfl, e0, (by decide : 0 + 0 ≤ _), (by decide : 0 + 0 ≤ _)⟩)
      dsimp only [Pt.U, Pt.locs, Pt.cells, Pt.slots] at X9 l9 y9 z9 ls9 hQ9
      subst l9 y9 z9
      obtain ⟨rfl, Nq9, eq9⟩ := hQ9
      have N9 := Fr.app N0 Nq9
      have st10 : own_Go p e below (T9.setTop (mkF m 38 #[.val (.int ua), .val (.int dg), .val (.int (10 : Int32))] [(.int (((dg + 1) * (dg + 2)) / 2))])) (s₁.setTop (entryFrame m #[(.int ua)] maxLocals)) := fun t kt => st8 t (ls9 t kt)
      have hc11 : (((dg + 1) * (dg + 2)) / 2) = (10 : Int32) := by rw [q4]; decide
      have st12 : own_Go p e below (T9.setTop (mkF m 47 #[.val (.int ua), .val (.int dg), .val (.int (10 : Int32))] [(.int (1 : Int32))])) (s₁.setTop (entryFrame m #[(.int ua)] maxLocals)) := fun t kt => st10 t (by
        show Steps p.tables e below (T9.setTop (mkF m 38 #[.val (.int ua), .val (.int dg), .val (.int (10 : Int32))] [(.int (((dg + 1) * (dg + 2)) / 2))])) _
        refine XS.iloadN X9.here hx rfl (hb hby at_38) rfl ?_
        show Steps p.tables e below (T9.setTop (mkF m 39 #[.val (.int ua), .val (.int dg), .val (.int (10 : Int32))] [(.int (10 : Int32)), (.int (((dg + 1) * (dg + 2)) / 2))])) _
        refine XS.icmpNo X9.here hx rfl (hb hby at_39) rfl (teq hc11).2 ?_
        show Steps p.tables e below (T9.setTop (mkF m 42 #[.val (.int ua), .val (.int dg), .val (.int (10 : Int32))] [])) _
        refine XS.iconst X9.here hx rfl (hb hby at_42) ?_
        show Steps p.tables e below (T9.setTop (mkF m 43 #[.val (.int ua), .val (.int dg), .val (.int (10 : Int32))] [(.int (1 : Int32))])) _
        refine XS.goto X9.here hx rfl (pc0 := 43) (pc' := 47) rfl (hb hby at_43) (by decide) (by decide) ?_
        show Steps p.tables e below (T9.setTop (mkF m 47 #[.val (.int ua), .val (.int dg), .val (.int (10 : Int32))] [(.int (1 : Int32))])) _
        exact kt)
      obtain ⟨fs, hr, hrun, hended, hW, hsame⟩ := X9.leave (v := (some (.int (1 : Int32)))) (fun h => by rw [Bd.returns] at h; cases h)
      refine ⟨_, _, st12 _ ?_, hrun, hended, _, _, rfl, ?_, ⟨_, rfl⟩, hW, hsame.mono (by decide) (by decide)⟩
      · exact retN X9 hx (t := .boolean) Bd.returns (by simp) (hb hby at_47) hr
      · show Q_rm_law Z ua h0 n0 _ T9.heap _
        rw [eq9]
        exact ⟨rfl, N9⟩
    · have q4 : dg = 4 := by
        rcases own_dg ua with q | q | q
        · exact absurd (h_dg.trans q) q1
        · exact absurd (h_dg.trans q) q2
        · exact h_dg.trans q
      have st13 : own_Go p e below (s₁.setTop (mkF m 35 #[.val (.int ua), .val (.int dg), .val (.int (15 : Int32))] [(.int dg)])) (s₁.setTop (entryFrame m #[(.int ua)] maxLocals)) := fun t kt => st7 t (by
        show Steps p.tables e below (s₁.setTop (mkF m 22 #[.val (.int ua), .val (.int dg), .unset] [(.int (3 : Int32)), (.int dg)])) _
        refine XS.icmpYes X0.here hx rfl (pc0 := 22) (pc' := 31) rfl (hb hby at_22) rfl (feq q2).2 (by decide) (by decide) ?_
        show Steps p.tables e below (s₁.setTop (mkF m 31 #[.val (.int ua), .val (.int dg), .unset] [])) _
        refine XS.bipush X0.here hx rfl (hb hby at_31) ?_
        show Steps p.tables e below (s₁.setTop (mkF m 33 #[.val (.int ua), .val (.int dg), .unset] [(.int (15 : Int32))])) _
        refine XS.istoreN X0.here hx rfl (hb hby at_33) rfl (l' := #[.val (.int ua), .val (.int dg), .val (.int (15 : Int32))]) rfl ?_
        show Steps p.tables e below (s₁.setTop (mkF m 34 #[.val (.int ua), .val (.int dg), .val (.int (15 : Int32))] [])) _
        refine XS.iloadN X0.here hx rfl (hb hby at_34) rfl ?_
        show Steps p.tables e below (s₁.setTop (mkF m 35 #[.val (.int ua), .val (.int dg), .val (.int (15 : Int32))] [(.int dg)])) _
        exact kt)
      obtain ⟨_, _, ⟨T14, L14, k14, n14⟩, -, X14, ⟨Lc14, hQ14, l14, y14, z14⟩, ls14⟩ := Jvm.LawKit.callS X0 hx (y := (⟨"com/example/datumbridge/datumbridge/operation/PolynomialTransformation", "terms", "(I)I"⟩ : MethodName)) hown (mvT hZ (hw _ (List.mem_of_getElem? (i := 1) rfl))) (mvT hZ (hw _ (List.mem_of_getElem? (i := 2) rfl))) (mvT hZ (hw _ (List.mem_of_getElem? (i := 3) rfl))) (mvT hZ (hw _ (List.mem_of_getElem? (i := 4) rfl))) (by decide) (backOf (W := 0) (rm_terms l Z a0 hw [] dg h0 n0 Z0 (by rw [q4]; decide) (by rw [q4]; decide)) hZ (hw _ (List.mem_of_getElem? (i := 4) rfl)) (hw _ (List.mem_of_getElem? (i := 3) rfl)) (by decide) (by decide)) (g := (mkF m 35 #[.val (.int ua), .val (.int dg), .val (.int (15 : Int32))] [(.int dg)])) rfl (by rw [hml]; rfl) (argsL := [(.int dg)]) (rest := []) (lenOf own_pd0 rfl) rfl (by show 2 * 0 + _ ≤ _; exact Nat.le_of_eq rfl) (hb hby at_35) (fun _ _ => ⟨rfl, e0, (by decide : 0 + 0 ≤ _), (by decide : 0 + 0 ≤ _)⟩)
      dsimp only [Pt.U, Pt.locs, Pt.cells, Pt.slots] at X14 l14 y14 z14 ls14 hQ14
      subst l14 y14 z14
      obtain ⟨rfl, Nq14, eq14⟩ := hQ14
      have N14 := Fr.app N0 Nq14
      have st15 : own_Go p e below (T14.setTop (mkF m 38 #[.val (.int ua), .val (.int dg), .val (.int (15 : Int32))] [(.int (((dg + 1) * (dg + 2)) / 2))])) (s₁.setTop (entryFrame m #[(.int ua)] maxLocals)) := fun t kt => st13 t (ls14 t kt)
      have hc16 : (((dg + 1) * (dg + 2)) / 2) = (15 : Int32) := by rw [q4]; decide
      have st17 : own_Go p e below (T14.setTop (mkF m 47 #[.val (.int ua), .val (.int dg), .val (.int (15 : Int32))] [(.int (1 : Int32))])) (s₁.setTop (entryFrame m #[(.int ua)] maxLocals)) := fun t kt => st15 t (by
        show Steps p.tables e below (T14.setTop (mkF m 38 #[.val (.int ua), .val (.int dg), .val (.int (15 : Int32))] [(.int (((dg + 1) * (dg + 2)) / 2))])) _
        refine XS.iloadN X14.here hx rfl (hb hby at_38) rfl ?_
        show Steps p.tables e below (T14.setTop (mkF m 39 #[.val (.int ua), .val (.int dg), .val (.int (15 : Int32))] [(.int (15 : Int32)), (.int (((dg + 1) * (dg + 2)) / 2))])) _
        refine XS.icmpNo X14.here hx rfl (hb hby at_39) rfl (teq hc16).2 ?_
        show Steps p.tables e below (T14.setTop (mkF m 42 #[.val (.int ua), .val (.int dg), .val (.int (15 : Int32))] [])) _
        refine XS.iconst X14.here hx rfl (hb hby at_42) ?_
        show Steps p.tables e below (T14.setTop (mkF m 43 #[.val (.int ua), .val (.int dg), .val (.int (15 : Int32))] [(.int (1 : Int32))])) _
        refine XS.goto X14.here hx rfl (pc0 := 43) (pc' := 47) rfl (hb hby at_43) (by decide) (by decide) ?_
        show Steps p.tables e below (T14.setTop (mkF m 47 #[.val (.int ua), .val (.int dg), .val (.int (15 : Int32))] [(.int (1 : Int32))])) _
        exact kt)
      obtain ⟨fs, hr, hrun, hended, hW, hsame⟩ := X14.leave (v := (some (.int (1 : Int32)))) (fun h => by rw [Bd.returns] at h; cases h)
      refine ⟨_, _, st17 _ ?_, hrun, hended, _, _, rfl, ?_, ⟨_, rfl⟩, hW, hsame.mono (by decide) (by decide)⟩
      · exact retN X14 hx (t := .boolean) Bd.returns (by simp) (hb hby at_47) hr
      · show Q_rm_law Z ua h0 n0 _ T14.heap _
        rw [eq14]
        exact ⟨rfl, N14⟩
set_option maxRecDepth 65536 in
set_option maxHeartbeats 40000000 in
theorem comes_1 {Post : Tables → Env → Array Value → State → Outcome → State → Prop} (hpost : ∀ tb e args s v u, (limb_1_1.after args s (.returned v) u = true ∧ limb_1_2.after args s (.returned v) u = true ∧ True) → FrameEnd s (.returned v) u (Jvm.fieldLocs frame_1_writes args s ++ Jvm.arrayLocs frame_1_arrays args s ++ Jvm.staticLocs frame_1_statics s) 0 0 → Post tb e args s (.returned v) u) :
    ArmFor flags0 classFile x code maxLocals ret World_1 tables_1 room_1 Calls_1 rest_1 Pre_1 Post := by
  intro l hfl _ _ p e ha hc hk s m args below hf hA hF happ hP
  obtain ⟨hcalls, hrest, hpre⟩ := hP
  obtain ⟨-, -, -, hnamed, -, -, -, hat⟩ := (Spec.applies_iff hf).mp happ
  obtain ⟨hg, hn⟩ := and_e (Cond.before_iff.mp (show (Jvm.Cond.and given_1 narrow_1).before args s = true from hpre))
  obtain ⟨gg1, gg2⟩ := and_e hg
  obtain ⟨w0, rfl⟩ : ∃ w0 : Value, args = #[w0] := by
    have hs : args.size = 1 := by simpa [Cond.value, given_1] using gg1
    obtain ⟨L⟩ := args
    match L, hs with
    | [w0], _ => exact ⟨w0, rfl⟩
  have hw := fun d (hd : d ∈ tables_1) => atoms_spec (ws := Jvm.Cond.code x code maxLocals ret :: tables_1) hat d (List.mem_cons_of_mem _ hd)
  have hfit : Fit s := fun {y c} hc i hi => by
    obtain ⟨ha, rfl⟩ := Array.getElem?_eq_some_iff.mp hc
    have q := List.all_eq_true.mp ((Array.all_eq_true_iff_forall_mem.mp hF) _ (Array.getElem_mem ha)) i (List.mem_range.mpr hi)
    simpa [Array.getElem?_eq_getElem hi] using q
  obtain ⟨i0, ei0⟩ := is_v gg2
  obtain rfl : w0 = (.int i0) := Option.some.inj ei0
  obtain ⟨n, o, h1, h2, h3, _, L, rfl, ⟨rfl, N⟩, hq⟩ := rm_law l s _ hw tables_1 i0  s.heap s.heap.size (Nat.le_refl _)  p e ha hc hk s m _ below hf ((Spec.applies_iff_loose hf).mp happ).1 ⟨rfl, State.Warmed39.refl s, rfl⟩ trivial
  refine ⟨n, _, h1, h2, h3, hpost _ _ _ _ _ _ ⟨Cond.after_iff.mpr rfl, Cond.after_iff.mpr (eq_i res_at (Term.int_eval (1)) rfl), trivial⟩ ⟨hq.1, hq.2.1, (hq.2.2.sift fun y hy => Or.inr (N y hy)).mono (by decide) (by decide)⟩⟩
theorem main_1_1 : Claimed_1_1 := comes_1 fun _ _ _ _ _ _ h hF => ⟨h.1, hF⟩
theorem main_1_2 : Claimed_1_2 := comes_1 fun _ _ _ _ _ _ h hF => ⟨h.2.1, hF⟩
end Jvm.Pilot.@@N@@
namespace Jvm.Pilot.@@N@@
open Jvm Jvm.ClassFile Sem Op Lib Jvm.Free Jvm.Stand Jvm.Pilot.@@N@@.Jvm.D
/-! MADE BY PROGRAM (witnessworld.py) out of the Statement's table words and the real class files: 10 classes; the members and pool entries that the words name. The judged class is class 1, her method 1. -/
namespace start1
open Jvm.ClassFile
def u (s : String) : CpInfo := .utf8 (stringToUtf16 s)
/-- a pool by its gaps: so many unusable entries, then the entry; so many at the end -/
def gap : Nat → List CpInfo → List CpInfo
  | 0, r => r
  | n + 1, r => .unusable :: gap n r
def poolList (es : List (Nat × CpInfo)) (last : Nat) : List CpInfo := es.foldr (fun e r => gap e.1 (e.2 :: r)) (gap last [])
def pool (es : List (Nat × CpInfo)) (last : Nat) : Array CpInfo := ⟨poolList es last⟩
def fileOf (pool : Array CpInfo) (this : Nat) (attrs : Array Attribute := #[]) (ms : Array MethodInfo := #[]) (fl : Nat := 33) (sup : Nat := 0) (ifs : Array Nat := #[]) (fds : Array FieldInfo := #[]) : ClassFile where
  minorVersion := 0
  majorVersion := 65
  constantPool := pool
  accessFlags := fl
  thisClass := this
  superClass := sup
  interfaces := ifs
  fields := fds
  methods := ms
  attributes := attrs
def plain (name : String) (sup : Option ClassId) : Class where
  name := name
  kind := .ordinary
  loader := none
  accessFlags := 33
  super := sup
  interfaces := #[]
  cf := none
  fields := #[]
  methods := #[]
  instanceTypes := #[]
  staticTypes := #[]
  resolved := #[]
  callSites := []
  init := .initialized
  statics := none
  mirror := none

def pool0 : Array CpInfo := pool [(5, u "<init>"), (0, u "()V"), (1, .class_ 10), (1, u "java/lang/Object")] 113

def k0m0 : Method := { name := "<init>", desc := "()V", sig := { parameters := [], returnType := none }, accessFlags := 1, code := none }
/-- java/lang/Object -/
def k0 : Class := { plain "java/lang/Object" none with
  accessFlags := 33
  interfaces := #[]
  cf := some (fileOf pool0 8 #[] #[{ accessFlags := 1, nameIndex := 5, descriptorIndex := 6, attributes := #[] }] 33 0 #[] #[])
  fields := #[]
  methods := #[k0m0]
  instanceTypes := #[]
  staticTypes := #[]
  resolved := Array.replicate 124 none
  statics := none }

def pool1 : Array CpInfo := pool [(2, .class_ 4), (1, u "java/lang/Object"), (0, u "<init>"), (0, u "()V"), (0, .integer 2147483647), (0, .methodref 9 10), (0, .class_ 11), (0, .nameAndType 12 13), (0, u "com/example/datumbridge/datumbridge/operation/PolynomialTransformation"), (0, u "terms"), (0, u "(I)I"), (0, .class_ 15), (0, u "com/example/datumbridge/datumbridge/operation/PolynomialTransformationTermsPinLaw"), (2, u "law"), (0, u "(I)Z")] 3

def k1m0 : Method := { name := "<init>", desc := "()V", sig := { parameters := [], returnType := none }, accessFlags := 2, code := none }
def k1c1 : Code := { maxStack := 3, maxLocals := 3, code := code, exceptionTable := #[], attributes := #[] }
def k1m1 : Method := { name := "law", desc := "(I)Z", sig := { parameters := [.int], returnType := some .boolean }, accessFlags := 9, code := some k1c1 }
/-- com/example/datumbridge/datumbridge/operation/PolynomialTransformationTermsPinLaw -/
def k1 : Class := { plain "com/example/datumbridge/datumbridge/operation/PolynomialTransformationTermsPinLaw" (some 0) with
  accessFlags := 49
  interfaces := #[]
  cf := some (fileOf pool1 14 #[] #[{ accessFlags := 2, nameIndex := 5, descriptorIndex := 6, attributes := #[] }, { accessFlags := 9, nameIndex := 18, descriptorIndex := 19, attributes := #[] }] 49 2 #[] #[])
  fields := #[]
  methods := #[k1m0, k1m1]
  instanceTypes := #[]
  staticTypes := #[]
  resolved := Array.replicate 23 none
  statics := none }

def pool2 : Array CpInfo := pool [(2, .class_ 4), (1, u "com/example/datumbridge/datumbridge/operation/Operation"), (18, .class_ 24), (0, u "java/lang/Object")] 32

/-- com/example/datumbridge/datumbridge/operation/Operation -/
def k2 : Class := { plain "com/example/datumbridge/datumbridge/operation/Operation" (some 0) with
  accessFlags := 1537
  interfaces := #[]
  cf := some (fileOf pool2 2 #[] #[] 1537 23 #[] #[])
  fields := #[]
  methods := #[]
  instanceTypes := #[]
  staticTypes := #[]
  resolved := Array.replicate 57 none
  statics := none }

def pool3 : Array CpInfo := pool [(2, .class_ 4), (1, u "java/lang/Object"), (3, .class_ 10), (1, u "com/example/datumbridge/datumbridge/operation/PolynomialTransformation"), (0, u "terms"), (0, u "(I)I"), (21, u "kind"), (0, u "Lcom/example/datumbridge/datumbridge/operation/CoordinateKind;"), (2, u "reversible"), (0, u "Z"), (2, u "degree"), (0, u "I"), (2, u "xs0"), (0, u "D"), (2, u "ys0"), (2, u "xt0"), (2, u "yt0"), (2, u "dxCoefficients"), (0, u "[D"), (2, u "dyCoefficients"), (45, .class_ 110), (0, u "com/example/datumbridge/datumbridge/operation/Operation"), (0, u "COMPLEX_COEFFICIENTS")] 44

def k3c0 : Code := { maxStack := 3, maxLocals := 1, code := prog_42_method_2_code, exceptionTable := #[], attributes := #[] }
def k3m0 : Method := { name := "terms", desc := "(I)I", sig := { parameters := [.int], returnType := some .int }, accessFlags := 8, code := some k3c0 }
/-- com/example/datumbridge/datumbridge/operation/PolynomialTransformation -/
def k3 : Class := { plain "com/example/datumbridge/datumbridge/operation/PolynomialTransformation" (some 0) with
  accessFlags := 49
  interfaces := #[2]
  cf := some (fileOf pool3 8 #[] #[{ accessFlags := 8, nameIndex := 11, descriptorIndex := 12, attributes := #[] }] 49 2 #[109] #[{ accessFlags := 24, nameIndex := 111, descriptorIndex := 43, attributes := #[] }, { accessFlags := 18, nameIndex := 34, descriptorIndex := 35, attributes := #[] }, { accessFlags := 18, nameIndex := 38, descriptorIndex := 39, attributes := #[] }, { accessFlags := 18, nameIndex := 42, descriptorIndex := 43, attributes := #[] }, { accessFlags := 18, nameIndex := 46, descriptorIndex := 47, attributes := #[] }, { accessFlags := 18, nameIndex := 50, descriptorIndex := 47, attributes := #[] }, { accessFlags := 18, nameIndex := 53, descriptorIndex := 47, attributes := #[] }, { accessFlags := 18, nameIndex := 56, descriptorIndex := 47, attributes := #[] }, { accessFlags := 18, nameIndex := 59, descriptorIndex := 60, attributes := #[] }, { accessFlags := 18, nameIndex := 63, descriptorIndex := 60, attributes := #[] }])
  fields := #[{ name := "COMPLEX_COEFFICIENTS", type := .int, accessFlags := 24, slot := 0, constantValue := 0 }, { name := "kind", type := (.object "com/example/datumbridge/datumbridge/operation/CoordinateKind"), accessFlags := 18, slot := 0, constantValue := 0 }, { name := "reversible", type := .boolean, accessFlags := 18, slot := 1, constantValue := 0 }, { name := "degree", type := .int, accessFlags := 18, slot := 2, constantValue := 0 }, { name := "xs0", type := .double, accessFlags := 18, slot := 3, constantValue := 0 }, { name := "ys0", type := .double, accessFlags := 18, slot := 4, constantValue := 0 }, { name := "xt0", type := .double, accessFlags := 18, slot := 5, constantValue := 0 }, { name := "yt0", type := .double, accessFlags := 18, slot := 6, constantValue := 0 }, { name := "dxCoefficients", type := (.array .double), accessFlags := 18, slot := 7, constantValue := 0 }, { name := "dyCoefficients", type := (.array .double), accessFlags := 18, slot := 8, constantValue := 0 }]
  methods := #[k3m0]
  instanceTypes := #[(.object "com/example/datumbridge/datumbridge/operation/CoordinateKind"), .boolean, .int, .double, .double, .double, .double, (.array .double), (.array .double)]
  staticTypes := #[.int]
  resolved := Array.replicate 156 none
  statics := none }

def pool4 : Array CpInfo := pool [(1, u "java/lang/Cloneable"), (0, .class_ 1), (0, u "java/lang/Object"), (0, .class_ 3)] 3

/-- java/lang/Cloneable -/
def k4 : Class := { plain "java/lang/Cloneable" (some 0) with
  accessFlags := 1537
  interfaces := #[]
  cf := some (fileOf pool4 2 #[] #[] 1537 4 #[] #[])
  fields := #[]
  methods := #[]
  instanceTypes := #[]
  staticTypes := #[]
  resolved := Array.replicate 8 none
  statics := none }

def pool5 : Array CpInfo := pool [(1, u "java/io/Serializable"), (0, .class_ 1), (0, u "java/lang/Object"), (0, .class_ 3)] 3

/-- java/io/Serializable -/
def k5 : Class := { plain "java/io/Serializable" (some 0) with
  accessFlags := 1537
  interfaces := #[]
  cf := some (fileOf pool5 2 #[] #[] 1537 4 #[] #[])
  fields := #[]
  methods := #[]
  instanceTypes := #[]
  staticTypes := #[]
  resolved := Array.replicate 8 none
  statics := none }

/-- the primitive byte -/
def k6 : Class := { plain "byte" none with kind := .primitive 'B', accessFlags := 0x411 }
/-- [B -/
def k7 : Class := { plain "[B" (some 0) with kind := .array 6 .byte, interfaces := #[4, 5], accessFlags := 1041 }

/-- the primitive int -/
def k8 : Class := { plain "int" none with kind := .primitive 'I', accessFlags := 0x411 }
/-- [I -/
def k9 : Class := { plain "[I" (some 0) with kind := .array 8 .int, interfaces := #[4, 5], accessFlags := 1041 }

def heap : Heap := #[]
def classes : Array Class := #[k0, k1, k2, k3, k4, k5, k6, k7, k8, k9]
def interned : List (Array UInt16 × Addr) := []
def slotsUsed : Nat := 0
def theMethod : MethodId := ⟨1, 1⟩
def args0 : Array Value := #[.int 5]
def aboutOver (below : List Frame) : State where
  vm := { classes := classes, interned := interned.toArray }
  heap := heap
  slotsUsed := slotsUsed
  threads := #[{ frames := .invoking theMethod args0 :: below }]
def below0 : List Frame := [.native { method := ⟨0, 0⟩, args := #[] }]
def about1 : State := aboutOver below0
def p0 : Program := .bare "" "" ""
def e0 : Env := launch0.env 0 0 0
theorem w_frames : about1.frames = Frame.invoking theMethod args0 :: below0 := rfl
set_option maxRecDepth 65536 in
theorem w_args : argsFit about1.vm theMethod args0 = true := by decide +kernel
set_option maxRecDepth 65536 in
theorem w_heap : heapFits about1 = true := by decide +kernel
set_option maxRecDepth 65536 in
theorem w_runnable : about1.curStatus? = some .runnable := by decide +kernel
set_option maxRecDepth 65536 in
theorem w_alone : about1.alone = true := by decide +kernel
set_option maxRecDepth 65536 in
theorem w_named : about1.methodNamed? x = some theMethod := by decide +kernel
set_option maxRecDepth 65536 in
theorem w_hears : about1.hears theMethod below0 = true := by decide +kernel
set_option maxRecDepth 65536 in
theorem w_ripe : about1.ripe theMethod args0 below0 = true := by decide +kernel
theorem w_running : about1.status = .running := rfl
set_option maxRecDepth 65536 in
theorem w_room : about1.hasRoom e0.platform room_1 = true :=
  launch0.hasRoom_least _ room_1 (by decide +kernel) (by decide +kernel) (by decide +kernel) (by decide +kernel) (by decide +kernel) (by decide +kernel)
theorem allAtoms_all (ts : List Jvm.Cond) (a : Array Jvm.Value) (st : Jvm.State) : (allAtoms ts).before a st = ts.all (fun c => c.before a st) := by
  induction ts with
  | nil => rfl
  | cons c t ih =>
    show (Jvm.Cond.and c (allAtoms t)).before a st = _
    rw [Jvm.Cond.before_and, ih, List.all_cons]
def words1 : List Jvm.Cond := Jvm.Cond.code x code maxLocals ret :: tables_1
/-- a 'code' word, met by the world's own term for the bytes: nothing is compared byte by byte -/
theorem code_word {y : MethodName} {bytes : ByteArray} {mx : Nat} {rt : Option FieldType} {a : Array Value} {s : State} {m : MethodId} {meth : Method} {c : Code} (h1 : s.methodNamed? y = some m) (h2 : s.vm.method? m = some meth) (h3 : meth.code = some c) (h4 : c.code = bytes)
    (h5 : (c.maxLocals == mx && c.exceptionTable.isEmpty && decide (c.maxStack ≤ mostOperands) && decide (meth.sig.returnType = rt) && !meth.locks && decide (parseMethodDescriptor y.desc = some meth.sig)) = true) : (Jvm.Cond.code y bytes mx rt).before a s = true := by
  simp only [Bool.and_eq_true, beq_iff_eq, Bool.not_eq_true', decide_eq_true_eq] at h5
  obtain ⟨⟨⟨⟨⟨g1, g2⟩, g3⟩, g4⟩, g5⟩, g6⟩ := h5
  simp [Cond.before, Cond.holds, Cond.value, h1, h2, h3, h4, g1, g2, g3, g4, g5, g6]
def isCode : Jvm.Cond → Bool
  | .code _ _ _ _ => true
  | _ => false
theorem all_split {L : List Jvm.Cond} {P : Jvm.Cond → Bool} (h1 : L.all (fun c => isCode c || P c) = true) (h2 : ∀ c ∈ L.filter isCode, P c = true) : L.all P = true := by
  refine List.all_eq_true.mpr fun c hc => ?_
  have h := List.all_eq_true.mp h1 c hc
  rcases Bool.eq_false_or_eq_true (isCode c) with hi | hi
  · exact h2 c (List.mem_filter.mpr ⟨hc, hi⟩)
  · simpa [hi] using h
set_option maxRecDepth 65536 in
theorem w_c0 : (Jvm.Cond.code x code maxLocals ret).before args0 about1 = true := code_word (m := ⟨1, 1⟩) (meth := k1m1) (c := k1c1) (by decide +kernel) rfl rfl rfl (by decide +kernel)
set_option maxRecDepth 65536 in
theorem w_c1 : (Jvm.Cond.code ({ cls := "com/example/datumbridge/datumbridge/operation/PolynomialTransformation", name := "terms", desc := "(I)I" } : Jvm.MethodName) prog_42_method_2_code (1 : Nat) (Option.some Jvm.ClassFile.FieldType.int)).before args0 about1 = true := code_word (m := ⟨3, 0⟩) (meth := k3m0) (c := k3c0) (by decide +kernel) rfl rfl rfl (by decide +kernel)
def codes1 : List Jvm.Cond := [Jvm.Cond.code x code maxLocals ret, Jvm.Cond.code ({ cls := "com/example/datumbridge/datumbridge/operation/PolynomialTransformation", name := "terms", desc := "(I)I" } : Jvm.MethodName) prog_42_method_2_code (1 : Nat) (Option.some Jvm.ClassFile.FieldType.int)]
set_option maxRecDepth 65536 in
theorem codes_eq : words1.filter isCode = codes1 := rfl
theorem w_codes : ∀ c ∈ words1.filter isCode, c.before args0 about1 = true := by
  rw [codes_eq]
  intro c hc
  simp only [codes1, List.mem_cons, List.not_mem_nil, or_false] at hc
  rcases hc with rfl | rfl
  · exact w_c0
  · exact w_c1
set_option maxRecDepth 65536 in
theorem w_t1 : words1.all (fun c => isCode c || c.before args0 about1) = true := by decide +kernel
theorem w_tables : (allAtoms (Jvm.Cond.code x code maxLocals ret :: tables_1)).before args0 about1 = true := by
  rw [allAtoms_all]
  show words1.all (fun c => c.before args0 about1) = true
  refine all_split ?_ w_codes
  rw [w_t1]
set_option maxRecDepth 65536 in
theorem w_case : (Jvm.Cond.and given_1 narrow_1).before args0 about1 = true := by decide +kernel
theorem w_applies : (headSpec (Jvm.Cond.code x code maxLocals ret :: tables_1) room_1).applies x e0.platform about1 = true :=
  (Spec.applies_iff w_frames).mpr ⟨w_running, w_runnable, w_alone, w_named, w_hears, w_ripe, w_room, w_tables⟩
theorem atStart : AtStart classFile x code maxLocals ret World_1 tables_1 room_1 Calls_1 rest_1 Pre_1 launch0 p0 e0 about1 theMethod args0 below0 :=
  ⟨lists_1, trivial, launch0.admits_env _ _ _, launch0.least_env, fairChoices_fair.cas, fairChoices_fair.clock, w_frames, w_args, w_heap, w_applies, trivial, trivial, w_case⟩
end start1
theorem witness_1 : WitnessClaimed_1 := ⟨start1.p0, start1.e0, start1.about1, start1.theMethod, start1.args0, start1.below0, start1.atStart⟩
end Jvm.Pilot.@@N@@
