import JvmDerived
import JvmDerived.Pilot.@@N@@Statement
import JvmDerived.Pilot.@@N@@Code
set_option linter.unusedVariables false
set_option linter.unusedSimpArgs false
namespace Jvm.Pilot.@@N@@
open Jvm Jvm.ClassFile Sem Op Lib Jvm.Free Jvm.Stand Jvm.LawKit Jvm.RoadKit Bundle Jvm.Pilot.@@N@@.Jvm.D
abbrev own_Go (p : Program) (e : Env) (below : List Frame) (A B : State) : Prop := ∀ t, Steps p.tables e below A t → Steps p.tables e below B t

def own_one (x y z : Addr) : Int32 := if x = y then 1 else if x = z then 1 else 0
theorem own_eqI {args : Array Value} {first s : State} {o : Option Outcome} {idx : List Nat} {a : Term} {k : Int32} (h : (Cond.eq a (Term.int k)).value args first o s idx = some true) : a.eval args first o idx s = some (.int k) := by
  obtain ⟨x, y, h1, h2, -, hk⟩ := cmp_v (Or.inl h)
  have e2 : y = .int k := (Option.some.inj (h2.symm.trans (Term.int_eval k)))
  subst e2
  obtain ⟨z, rfl⟩ := hk
  have e : (Cond.eq a (Term.int k)).value args first o s idx = some (decide (z = k)) := by simp [Cond.value, h1, h2]
  rw [h1, gotT e h]
theorem own_ne {args : Array Value} {first s : State} {o : Option Outcome} {idx : List Nat} {t u : Term} {a b : Addr} {C n d : String} {j k : Int32} (ht : t.eval args first o idx s = some (.ref a)) (hu : u.eval args first o idx s = some (.ref b))
    (h1 : (Cond.eq (Term.field t C n d) (Term.int j)).value args first o s idx = some true) (h2 : (Cond.eq (Term.field u C n d) (Term.int k)).value args first o s idx = some true) (hjk : j ≠ k) : a ≠ b := fun e => by
  subst e
  have e1 := own_eqI h1
  have e2 := own_eqI h2
  rw [fld_at ht] at e1
  rw [fld_at hu, e1] at e2
  exact hjk (Value.int.inj (Option.some.inj e2))

theorem own_pn0 : plainName "com/example/strict_launch/strictlaunch/manifest/LaunchMode" = true := by first | (simp [plainName, overriddenIn]; done) | decide +kernel
theorem own_ef1_R (m : MethodId) (x0 : Addr) : entryFrame m #[(.ref x0)] 1 = mkF m 0 #[.val (.ref x0)] [] := by first | (simp [entryFrame, mkF, argsToLocals, Value.category]; done) | rfl
theorem d1_0 : decode prog_51_method_5_code 0 = .ok (.aload_n 0, 1) := by decide +kernel
theorem d1_1 : decode prog_51_method_5_code 1 = .ok (.getstatic 10, 3) := by decide +kernel
theorem d1_4 : decode prog_51_method_5_code 4 = .ok (.if_acmp .eq 10, 3) := by decide +kernel
theorem d1_14 : decode prog_51_method_5_code 14 = .ok (.iconst 1, 1) := by decide +kernel
theorem d1_15 : decode prog_51_method_5_code 15 = .ok (.goto 4, 3) := by decide +kernel
theorem d1_19 : decode prog_51_method_5_code 19 = .ok (.ireturn, 1) := by decide +kernel
theorem d1_7 : decode prog_51_method_5_code 7 = .ok (.aload_n 0, 1) := by decide +kernel
theorem d1_8 : decode prog_51_method_5_code 8 = .ok (.getstatic 13, 3) := by decide +kernel
theorem d1_11 : decode prog_51_method_5_code 11 = .ok (.if_acmp .ne 7, 3) := by decide +kernel
theorem d1_18 : decode prog_51_method_5_code 18 = .ok (.iconst 0, 1) := by decide +kernel
theorem own_pn1 : plainName "com/example/strict_launch/strictlaunch/manifest/LaunchModeOneInstancePinLaw" = true := by first | (simp [plainName, overriddenIn]; done) | decide +kernel
theorem own_ef0_I (m : MethodId) (x0 : Int32) : entryFrame m #[(.int x0)] maxLocals = mkF m 0 #[.val (.int x0), .unset, .unset, .unset] [] := by first | (simp [entryFrame, mkF, argsToLocals, Value.category, maxLocals]; done) | rfl
theorem own_pd0 : parseMethodDescriptor "()Z" = some ⟨[], some .boolean⟩ := by decide +kernel
def Q_rm_one (Z : State) (ao : Addr) (a2 : Addr) (a3 : Addr) (h0 : Heap) (n0 : Nat) (v : Option Value) (h : Heap) (L : List Loc) : Prop := v = some (.int (own_one ao a2 a3)) ∧ Fr n0 L ∧ h = h0
set_option maxRecDepth 65536 in
set_option maxHeartbeats 40000000 in
theorem rm_one (l : Launch) (Z : State) (a0 : Array Value) (hw : ∀ d ∈ tables_1, d.before a0 Z = true) (ws : List Jvm.Cond) (ao : Addr) (a2 : Addr) (a3 : Addr) (h0 : Heap) (n0 : Nat) (Z0 : n0 ≤ h0.size) (S2 : Sta Z h0 "com/example/strict_launch/strictlaunch/manifest/LaunchMode" "SINGLE_TASK" "Lcom/example/strict_launch/strictlaunch/manifest/LaunchMode;" (.ref a2)) (S3 : Sta Z h0 "com/example/strict_launch/strictlaunch/manifest/LaunchMode" "SINGLE_INSTANCE" "Lcom/example/strict_launch/strictlaunch/manifest/LaunchMode;" (.ref a3)) :
    MetFree l (⟨"com/example/strict_launch/strictlaunch/manifest/LaunchMode", "oneInstance", "()Z"⟩ : MethodName) (head1 (Jvm.Cond.code (⟨"com/example/strict_launch/strictlaunch/manifest/LaunchMode", "oneInstance", "()Z"⟩ : MethodName) prog_51_method_5_code 1 (some .boolean) :: ws) ({ frames := 0, cells := 0, slots := 0, locals := 0 } : Room)) (fun a U => a = #[(.ref ao)] ∧ Z.Warmed39 U.vm ∧ U.heap = h0) (fun _ _ _ _ _ => True) (fun _ U o U' => ∃ v L, o = .returned v ∧ Q_rm_one Z ao a2 a3 h0 n0 v U'.heap L ∧ FrameEnd U o U' L ({ frames := 0, cells := 0, slots := 0, locals := 0 } : Room).cells ({ frames := 0, cells := 0, slots := 0, locals := 0 } : Room).slots) := by
  refine MetFree.of_bodySF (plainFor_of_name own_pn0) hisR ?_
  intro p e s m args below meth c s₁ Bd hml0 hP hK
  obtain ⟨rfl, hZ, hh⟩ := hP
  have hx := Bd.exec
  have hby := Bd.bytes
  have hml : c.maxLocals = 1 := hml0
  have hown : s.vm.findClass "com/example/strict_launch/strictlaunch/manifest/LaunchMode" = some m.cls := findClass_of_methodNamed Bd.named
  have hnm := (name_of_methodNamed Bd.named Bd.method).1
  have X0 : Stand p l e ({ frames := 0, cells := 0, slots := 0, locals := 0 } : Room) s m #[(.ref ao)] below meth c s₁ [] 0 0 := Stand.of_body Bd
  have e0 : s₁.heap = h0 := by rw [← hh, Bd.state]; rfl
  have N0 := Fr.nil n0
  have st0 : own_Go p e below (s₁.setTop (mkF m 0 #[.val (.ref ao)] [])) (s₁.setTop (entryFrame m #[(.ref ao)] 1)) := fun t k => castTop (own_ef1_R m ao) k
  have st1 : own_Go p e below (s₁.setTop (mkF m 1 #[.val (.ref ao)] [(.ref ao)])) (s₁.setTop (entryFrame m #[(.ref ao)] 1)) := fun t kt => st0 t (by
    show Steps p.tables e below (s₁.setTop (mkF m 0 #[.val (.ref ao)] [])) _
    refine XS.aloadN X0.here hx rfl (hb hby d1_0) rfl rfl ?_
    show Steps p.tables e below (s₁.setTop (mkF m 1 #[.val (.ref ao)] [(.ref ao)])) _
    exact kt)
  obtain ⟨T2, X2, e2, ls2⟩ := getS2 X0 hx hZ hown (host := "") (Or.inl (hw _ (List.mem_of_getElem? (i := 8) rfl))) Via.refl e0 S2 (g := (mkF m 1 #[.val (.ref ao)] [(.ref ao)])) rfl (hb hby d1_1)
  have st3 : own_Go p e below (T2.setTop (mkF m 4 #[.val (.ref ao)] [(.ref a2), (.ref ao)])) (s₁.setTop (entryFrame m #[(.ref ao)] 1)) := fun t kt => st1 t (ls2 t kt)
  by_cases q1 : ao = a2
  · have st4 : own_Go p e below (T2.setTop (mkF m 19 #[.val (.ref ao)] [(.int (1 : Int32))])) (s₁.setTop (entryFrame m #[(.ref ao)] 1)) := fun t kt => st3 t (by
      show Steps p.tables e below (T2.setTop (mkF m 4 #[.val (.ref ao)] [(.ref a2), (.ref ao)])) _
      refine Jvm.RoadKit.acmp (g := (mkF m 4 #[.val (.ref ao)] [(.ref a2), (.ref ao)])) X2 hx rfl rfl rfl (pc0 := 4) (pc' := 14) (same := true) rfl (hb hby d1_4) rfl (decide_eq_true (congrArg Value.ref q1)) (by decide) (by decide) ?_
      show Steps p.tables e below (T2.setTop (mkF m 14 #[.val (.ref ao)] [])) _
      refine XS.iconst X2.here hx rfl (hb hby d1_14) ?_
      show Steps p.tables e below (T2.setTop (mkF m 15 #[.val (.ref ao)] [(.int (1 : Int32))])) _
      refine XS.goto X2.here hx rfl (pc0 := 15) (pc' := 19) rfl (hb hby d1_15) (by decide) (by decide) ?_
      show Steps p.tables e below (T2.setTop (mkF m 19 #[.val (.ref ao)] [(.int (1 : Int32))])) _
      exact kt)
    obtain ⟨fs, hr, hrun, hended, hW, hsame⟩ := X2.leave (v := (some (.int (1 : Int32)))) (fun h => by rw [Bd.returns] at h; cases h)
    refine ⟨_, _, st4 _ ?_, hrun, hended, _, _, rfl, ?_, ⟨_, rfl⟩, hW, hsame.mono (by decide) (by decide)⟩
    · exact retN X2 hx (t := .boolean) Bd.returns (by simp) (hb hby d1_19) hr
    · show Q_rm_one Z ao a2 a3 h0 n0 _ T2.heap _
      rw [e2]
      exact ⟨by simp [own_one, q1], N0, rfl⟩
  · have st5 : own_Go p e below (T2.setTop (mkF m 8 #[.val (.ref ao)] [(.ref ao)])) (s₁.setTop (entryFrame m #[(.ref ao)] 1)) := fun t kt => st3 t (by
      show Steps p.tables e below (T2.setTop (mkF m 4 #[.val (.ref ao)] [(.ref a2), (.ref ao)])) _
      refine Jvm.RoadKit.acmp (g := (mkF m 4 #[.val (.ref ao)] [(.ref a2), (.ref ao)])) X2 hx rfl rfl rfl (pc0 := 4) (pc' := 7) (same := false) rfl (hb hby d1_4) rfl (decide_eq_false fun q => q1 (Value.ref.inj q)) (by decide) (by decide) ?_
      show Steps p.tables e below (T2.setTop (mkF m 7 #[.val (.ref ao)] [])) _
      refine XS.aloadN X2.here hx rfl (hb hby d1_7) rfl rfl ?_
      show Steps p.tables e below (T2.setTop (mkF m 8 #[.val (.ref ao)] [(.ref ao)])) _
      exact kt)
    obtain ⟨T6, X6, e6, ls6⟩ := getS2 X2 hx hZ hown (host := "") (Or.inl (hw _ (List.mem_of_getElem? (i := 10) rfl))) Via.refl e2 S3 (g := (mkF m 8 #[.val (.ref ao)] [(.ref ao)])) rfl (hb hby d1_8)
    have st7 : own_Go p e below (T6.setTop (mkF m 11 #[.val (.ref ao)] [(.ref a3), (.ref ao)])) (s₁.setTop (entryFrame m #[(.ref ao)] 1)) := fun t kt => st5 t (ls6 t kt)
    by_cases q2 : ao = a3
    · have st8 : own_Go p e below (T6.setTop (mkF m 19 #[.val (.ref ao)] [(.int (1 : Int32))])) (s₁.setTop (entryFrame m #[(.ref ao)] 1)) := fun t kt => st7 t (by
        show Steps p.tables e below (T6.setTop (mkF m 11 #[.val (.ref ao)] [(.ref a3), (.ref ao)])) _
        refine Jvm.RoadKit.acmp (g := (mkF m 11 #[.val (.ref ao)] [(.ref a3), (.ref ao)])) X6 hx rfl rfl rfl (pc0 := 11) (pc' := 14) (same := true) rfl (hb hby d1_11) rfl (decide_eq_true (congrArg Value.ref q2)) (by decide) (by decide) ?_
        show Steps p.tables e below (T6.setTop (mkF m 14 #[.val (.ref ao)] [])) _
        refine XS.iconst X6.here hx rfl (hb hby d1_14) ?_
        show Steps p.tables e below (T6.setTop (mkF m 15 #[.val (.ref ao)] [(.int (1 : Int32))])) _
        refine XS.goto X6.here hx rfl (pc0 := 15) (pc' := 19) rfl (hb hby d1_15) (by decide) (by decide) ?_
        show Steps p.tables e below (T6.setTop (mkF m 19 #[.val (.ref ao)] [(.int (1 : Int32))])) _
        exact kt)
      obtain ⟨fs, hr, hrun, hended, hW, hsame⟩ := X6.leave (v := (some (.int (1 : Int32)))) (fun h => by rw [Bd.returns] at h; cases h)
      refine ⟨_, _, st8 _ ?_, hrun, hended, _, _, rfl, ?_, ⟨_, rfl⟩, hW, hsame.mono (by decide) (by decide)⟩
      · exact retN X6 hx (t := .boolean) Bd.returns (by simp) (hb hby d1_19) hr
      · show Q_rm_one Z ao a2 a3 h0 n0 _ T6.heap _
        rw [e6]
        exact ⟨by simp [own_one, q2], N0, rfl⟩
    · have st9 : own_Go p e below (T6.setTop (mkF m 19 #[.val (.ref ao)] [(.int (0 : Int32))])) (s₁.setTop (entryFrame m #[(.ref ao)] 1)) := fun t kt => st7 t (by
        show Steps p.tables e below (T6.setTop (mkF m 11 #[.val (.ref ao)] [(.ref a3), (.ref ao)])) _
        refine Jvm.RoadKit.acmp (g := (mkF m 11 #[.val (.ref ao)] [(.ref a3), (.ref ao)])) X6 hx rfl rfl rfl (pc0 := 11) (pc' := 18) (same := false) rfl (hb hby d1_11) rfl (decide_eq_false fun q => q2 (Value.ref.inj q)) (by decide) (by decide) ?_
        show Steps p.tables e below (T6.setTop (mkF m 18 #[.val (.ref ao)] [])) _
        refine XS.iconst X6.here hx rfl (hb hby d1_18) ?_
        show Steps p.tables e below (T6.setTop (mkF m 19 #[.val (.ref ao)] [(.int (0 : Int32))])) _
        exact kt)
      obtain ⟨fs, hr, hrun, hended, hW, hsame⟩ := X6.leave (v := (some (.int (0 : Int32)))) (fun h => by rw [Bd.returns] at h; cases h)
      refine ⟨_, _, st9 _ ?_, hrun, hended, _, _, rfl, ?_, ⟨_, rfl⟩, hW, hsame.mono (by decide) (by decide)⟩
      · exact retN X6 hx (t := .boolean) Bd.returns (by simp) (hb hby d1_19) hr
      · show Q_rm_one Z ao a2 a3 h0 n0 _ T6.heap _
        rw [e6]
        exact ⟨by simp [own_one, q1, q2], N0, rfl⟩
def Q_rm_law (Z : State) (ua : Int32) (b0 : Addr) (b1 : Addr) (b2 : Addr) (b3 : Addr) (h0 : Heap) (n0 : Nat) (v : Option Value) (h : Heap) (L : List Loc) : Prop := v = some (.int 1) ∧ Fr n0 L
set_option maxRecDepth 65536 in
set_option maxHeartbeats 40000000 in
theorem rm_law (l : Launch) (Z : State) (a0 : Array Value) (hw : ∀ d ∈ tables_1, d.before a0 Z = true) (ws : List Jvm.Cond) (ua : Int32) (b0 : Addr) (b1 : Addr) (b2 : Addr) (b3 : Addr) (h0 : Heap) (n0 : Nat) (Z0 : n0 ≤ h0.size) (S_b0 : Sta Z h0 "com/example/strict_launch/strictlaunch/manifest/LaunchMode" "STANDARD" "Lcom/example/strict_launch/strictlaunch/manifest/LaunchMode;" (.ref b0)) (S_b1 : Sta Z h0 "com/example/strict_launch/strictlaunch/manifest/LaunchMode" "SINGLE_TOP" "Lcom/example/strict_launch/strictlaunch/manifest/LaunchMode;" (.ref b1)) (S_b2 : Sta Z h0 "com/example/strict_launch/strictlaunch/manifest/LaunchMode" "SINGLE_TASK" "Lcom/example/strict_launch/strictlaunch/manifest/LaunchMode;" (.ref b2)) (S_b3 : Sta Z h0 "com/example/strict_launch/strictlaunch/manifest/LaunchMode" "SINGLE_INSTANCE" "Lcom/example/strict_launch/strictlaunch/manifest/LaunchMode;" (.ref b3)) (E_b0 : Exa Z h0 b0 "com/example/strict_launch/strictlaunch/manifest/LaunchMode") (E_b1 : Exa Z h0 b1 "com/example/strict_launch/strictlaunch/manifest/LaunchMode") (E_b2 : Exa Z h0 b2 "com/example/strict_launch/strictlaunch/manifest/LaunchMode") (E_b3 : Exa Z h0 b3 "com/example/strict_launch/strictlaunch/manifest/LaunchMode") (n02 : b0 ≠ b2) (n03 : b0 ≠ b3) (n12 : b1 ≠ b2) (n13 : b1 ≠ b3) :
    MetFree l x (head1 (Jvm.Cond.code x code maxLocals ret :: ws) room_1) (fun a U => a = #[(.int ua)] ∧ Z.Warmed39 U.vm ∧ U.heap = h0) (fun _ _ _ _ _ => True) (fun _ U o U' => ∃ v L, o = .returned v ∧ Q_rm_law Z ua b0 b1 b2 b3 h0 n0 v U'.heap L ∧ FrameEnd U o U' L room_1.cells room_1.slots) := by
  refine MetFree.of_bodySF (plainFor_of_name own_pn1) hisR ?_
  intro p e s m args below meth c s₁ Bd hml0 hP hK
  obtain ⟨rfl, hZ, hh⟩ := hP
  have hx := Bd.exec
  have hby := Bd.bytes
  have hml : c.maxLocals = 4 := hml0
  have hown : s.vm.findClass "com/example/strict_launch/strictlaunch/manifest/LaunchModeOneInstancePinLaw" = some m.cls := findClass_of_methodNamed Bd.named
  have hnm := (name_of_methodNamed Bd.named Bd.method).1
  have X0 : Stand p l e room_1 s m #[(.int ua)] below meth c s₁ [] 0 0 := Stand.of_body Bd
  have e0 : s₁.heap = h0 := by rw [← hh, Bd.state]; rfl
  have N0 := Fr.nil n0
  have st0 : own_Go p e below (s₁.setTop (mkF m 0 #[.val (.int ua), .unset, .unset, .unset] [])) (s₁.setTop (entryFrame m #[(.int ua)] maxLocals)) := fun t k => castTop (own_ef0_I m ua) k
  obtain ⟨i1, h_i1⟩ : ∃ z : Int32, z = (ua &&& (3 : Int32)) := ⟨_, rfl⟩
  have st1 : own_Go p e below (s₁.setTop (mkF m 5 #[.val (.int ua), .val (.int i1), .unset, .unset] [(.int i1)])) (s₁.setTop (entryFrame m #[(.int ua)] maxLocals)) := fun t kt => st0 t (by
    show Steps p.tables e below (s₁.setTop (mkF m 0 #[.val (.int ua), .unset, .unset, .unset] [])) _
    refine XS.iloadN X0.here hx rfl (hb hby at_0) rfl ?_
    show Steps p.tables e below (s₁.setTop (mkF m 1 #[.val (.int ua), .unset, .unset, .unset] [(.int ua)])) _
    refine XS.iconst X0.here hx rfl (hb hby at_1) ?_
    show Steps p.tables e below (s₁.setTop (mkF m 2 #[.val (.int ua), .unset, .unset, .unset] [(.int (3 : Int32)), (.int ua)])) _
    refine XS.iand X0.here hx rfl (hb hby at_2) rfl ?_
    show Steps p.tables e below (s₁.setTop (mkF m 3 #[.val (.int ua), .unset, .unset, .unset] [(.int (ua &&& (3 : Int32)))])) _
    rw [← h_i1]
    show Steps p.tables e below (s₁.setTop (mkF m 3 #[.val (.int ua), .unset, .unset, .unset] [(.int i1)])) _
    refine XS.istoreN X0.here hx rfl (hb hby at_3) rfl (l' := #[.val (.int ua), .val (.int i1), .unset, .unset]) rfl ?_
    show Steps p.tables e below (s₁.setTop (mkF m 4 #[.val (.int ua), .val (.int i1), .unset, .unset] [])) _
    refine XS.iloadN X0.here hx rfl (hb hby at_4) rfl ?_
    show Steps p.tables e below (s₁.setTop (mkF m 5 #[.val (.int ua), .val (.int i1), .unset, .unset] [(.int i1)])) _
    exact kt)
  by_cases q1 : i1 = (0 : Int32)
  · have st2 : own_Go p e below (s₁.setTop (mkF m 8 #[.val (.int ua), .val (.int i1), .unset, .unset] [])) (s₁.setTop (entryFrame m #[(.int ua)] maxLocals)) := fun t kt => st1 t (by
      show Steps p.tables e below (s₁.setTop (mkF m 5 #[.val (.int ua), .val (.int i1), .unset, .unset] [(.int i1)])) _
      refine XS.ifNo X0.here hx rfl (hb hby at_5) rfl ((if0 _ _).trans (teq q1).2) ?_
      show Steps p.tables e below (s₁.setTop (mkF m 8 #[.val (.int ua), .val (.int i1), .unset, .unset] [])) _
      exact kt)
    obtain ⟨T3, X3, e3, ls3⟩ := getS2 X0 hx hZ hown (host := "") (Or.inl (hw _ (List.mem_of_getElem? (i := 0) rfl))) Via.refl e0 S_b0 (g := (mkF m 8 #[.val (.int ua), .val (.int i1), .unset, .unset] [])) rfl (hb hby at_8)
    have st4 : own_Go p e below (T3.setTop (mkF m 11 #[.val (.int ua), .val (.int i1), .unset, .unset] [(.ref b0)])) (s₁.setTop (entryFrame m #[(.int ua)] maxLocals)) := fun t kt => st2 t (ls3 t kt)
    have st5 : own_Go p e below (T3.setTop (mkF m 52 #[.val (.int ua), .val (.int i1), .val (.ref b0), .val (.int (0 : Int32))] [(.ref b0)])) (s₁.setTop (entryFrame m #[(.int ua)] maxLocals)) := fun t kt => st4 t (by
      show Steps p.tables e below (T3.setTop (mkF m 11 #[.val (.int ua), .val (.int i1), .unset, .unset] [(.ref b0)])) _
      refine XS.astoreN X3.here hx rfl (hb hby at_11) rfl rfl (l' := #[.val (.int ua), .val (.int i1), .val (.ref b0), .unset]) rfl ?_
      show Steps p.tables e below (T3.setTop (mkF m 12 #[.val (.int ua), .val (.int i1), .val (.ref b0), .unset] [])) _
      refine XS.iconst X3.here hx rfl (hb hby at_12) ?_
      show Steps p.tables e below (T3.setTop (mkF m 13 #[.val (.int ua), .val (.int i1), .val (.ref b0), .unset] [(.int (0 : Int32))])) _
      refine XS.istoreN X3.here hx rfl (hb hby at_13) rfl (l' := #[.val (.int ua), .val (.int i1), .val (.ref b0), .val (.int (0 : Int32))]) rfl ?_
      show Steps p.tables e below (T3.setTop (mkF m 14 #[.val (.int ua), .val (.int i1), .val (.ref b0), .val (.int (0 : Int32))] [])) _
      refine XS.goto X3.here hx rfl (pc0 := 14) (pc' := 51) rfl (hb hby at_14) (by decide) (by decide) ?_
      show Steps p.tables e below (T3.setTop (mkF m 51 #[.val (.int ua), .val (.int i1), .val (.ref b0), .val (.int (0 : Int32))] [])) _
      refine XS.aloadN X3.here hx rfl (hb hby at_51) rfl rfl ?_
      show Steps p.tables e below (T3.setTop (mkF m 52 #[.val (.int ua), .val (.int i1), .val (.ref b0), .val (.int (0 : Int32))] [(.ref b0)])) _
      exact kt)
    obtain ⟨cq6, kq6, q6a, q6b, q6c⟩ := isOf hZ e3 E_b0
    obtain ⟨_, _, ⟨T6, L6, k6, n6⟩, -, X6, ⟨Lc6, hQ6, l6, y6, z6⟩, ls6⟩ := X3.virtualBack hx (y := (⟨"com/example/strict_launch/strictlaunch/manifest/LaunchMode", "oneInstance", "()Z"⟩ : MethodName)) (z := (⟨"com/example/strict_launch/strictlaunch/manifest/LaunchMode", "oneInstance", "()Z"⟩ : MethodName)) hown (mvT hZ (hw _ (List.mem_of_getElem? (i := 3) rfl))) (mvT hZ (hw _ (List.mem_of_getElem? (i := 4) rfl))) (notFace_of_selects (args := #[]) (mvT hZ (hw _ (List.mem_of_getElem? (i := 6) rfl)))) (mvT hZ (hw _ (List.mem_of_getElem? (i := 6) rfl))) (mvT hZ (hw _ (List.mem_of_getElem? (i := 5) rfl))) (by decide) (backOf (W := 0) (rm_one l Z a0 hw [] b0 b2 b3 h0 n0 Z0 S_b2 S_b3) hZ (hw _ (List.mem_of_getElem? (i := 7) rfl)) (hw _ (List.mem_of_getElem? (i := 1) rfl)) (by decide) (by decide)) q6a q6c (g := (mkF m 52 #[.val (.int ua), .val (.int i1), .val (.ref b0), .val (.int (0 : Int32))] [(.ref b0)])) rfl (by rw [hml]; rfl) (Steps.refl _) (argsL := []) (rest := []) (lenOf own_pd0 rfl) rfl (by show 2 * 0 + _ ≤ _; exact Nat.le_of_eq rfl) (hb hby at_52) (fun _ _ => ⟨rfl, e3, (by decide : 0 + 0 ≤ _), (by decide : 0 + 0 ≤ _)⟩)
    dsimp only [Pt.U, Pt.locs, Pt.cells, Pt.slots] at X6 l6 y6 z6 ls6 hQ6
    subst l6 y6 z6
    obtain ⟨rfl, Nq6, eq6⟩ := hQ6
    have N6 := Fr.app N0 Nq6
    have st7 : own_Go p e below (T6.setTop (mkF m 55 #[.val (.int ua), .val (.int i1), .val (.ref b0), .val (.int (0 : Int32))] [(.int (own_one b0 b2 b3))])) (s₁.setTop (entryFrame m #[(.int ua)] maxLocals)) := fun t kt => st5 t (ls6.trans kt)
    have hc8 : (own_one b0 b2 b3) = (0 : Int32) := by simp [own_one, n02, n03]
    have st9 : own_Go p e below (T6.setTop (mkF m 64 #[.val (.int ua), .val (.int i1), .val (.ref b0), .val (.int (0 : Int32))] [(.int (1 : Int32))])) (s₁.setTop (entryFrame m #[(.int ua)] maxLocals)) := fun t kt => st7 t (by
      show Steps p.tables e below (T6.setTop (mkF m 55 #[.val (.int ua), .val (.int i1), .val (.ref b0), .val (.int (0 : Int32))] [(.int (own_one b0 b2 b3))])) _
      refine XS.iloadN X6.here hx rfl (hb hby at_55) rfl ?_
      show Steps p.tables e below (T6.setTop (mkF m 56 #[.val (.int ua), .val (.int i1), .val (.ref b0), .val (.int (0 : Int32))] [(.int (0 : Int32)), (.int (own_one b0 b2 b3))])) _
      refine XS.icmpNo X6.here hx rfl (hb hby at_56) rfl (teq hc8).2 ?_
      show Steps p.tables e below (T6.setTop (mkF m 59 #[.val (.int ua), .val (.int i1), .val (.ref b0), .val (.int (0 : Int32))] [])) _
      refine XS.iconst X6.here hx rfl (hb hby at_59) ?_
      show Steps p.tables e below (T6.setTop (mkF m 60 #[.val (.int ua), .val (.int i1), .val (.ref b0), .val (.int (0 : Int32))] [(.int (1 : Int32))])) _
      refine XS.goto X6.here hx rfl (pc0 := 60) (pc' := 64) rfl (hb hby at_60) (by decide) (by decide) ?_
      show Steps p.tables e below (T6.setTop (mkF m 64 #[.val (.int ua), .val (.int i1), .val (.ref b0), .val (.int (0 : Int32))] [(.int (1 : Int32))])) _
      exact kt)
    obtain ⟨fs, hr, hrun, hended, hW, hsame⟩ := X6.leave (v := (some (.int (1 : Int32)))) (fun h => by rw [Bd.returns] at h; cases h)
    refine ⟨_, _, st9 _ ?_, hrun, hended, _, _, rfl, ?_, ⟨_, rfl⟩, hW, hsame.mono (by decide) (by decide)⟩
    · exact retN X6 hx (t := .boolean) Bd.returns (by simp) (hb hby at_64) hr
    · show Q_rm_law Z ua b0 b1 b2 b3 h0 n0 _ T6.heap _
      rw [eq6]
      exact ⟨rfl, N6⟩
  · have st10 : own_Go p e below (s₁.setTop (mkF m 19 #[.val (.int ua), .val (.int i1), .unset, .unset] [(.int (1 : Int32)), (.int i1)])) (s₁.setTop (entryFrame m #[(.int ua)] maxLocals)) := fun t kt => st1 t (by
      show Steps p.tables e below (s₁.setTop (mkF m 5 #[.val (.int ua), .val (.int i1), .unset, .unset] [(.int i1)])) _
      refine XS.ifYes X0.here hx rfl (pc0 := 5) (pc' := 17) rfl (hb hby at_5) rfl ((if0 _ _).trans (feq q1).2) (by decide) (by decide) ?_
      show Steps p.tables e below (s₁.setTop (mkF m 17 #[.val (.int ua), .val (.int i1), .unset, .unset] [])) _
      refine XS.iloadN X0.here hx rfl (hb hby at_17) rfl ?_
      show Steps p.tables e below (s₁.setTop (mkF m 18 #[.val (.int ua), .val (.int i1), .unset, .unset] [(.int i1)])) _
      refine XS.iconst X0.here hx rfl (hb hby at_18) ?_
      show Steps p.tables e below (s₁.setTop (mkF m 19 #[.val (.int ua), .val (.int i1), .unset, .unset] [(.int (1 : Int32)), (.int i1)])) _
      exact kt)
    by_cases q2 : i1 = (1 : Int32)
    · have st11 : own_Go p e below (s₁.setTop (mkF m 22 #[.val (.int ua), .val (.int i1), .unset, .unset] [])) (s₁.setTop (entryFrame m #[(.int ua)] maxLocals)) := fun t kt => st10 t (by
        show Steps p.tables e below (s₁.setTop (mkF m 19 #[.val (.int ua), .val (.int i1), .unset, .unset] [(.int (1 : Int32)), (.int i1)])) _
        refine XS.icmpNo X0.here hx rfl (hb hby at_19) rfl (teq q2).2 ?_
        show Steps p.tables e below (s₁.setTop (mkF m 22 #[.val (.int ua), .val (.int i1), .unset, .unset] [])) _
        exact kt)
      obtain ⟨T12, X12, e12, ls12⟩ := getS2 X0 hx hZ hown (host := "") (Or.inl (hw _ (List.mem_of_getElem? (i := 14) rfl))) Via.refl e0 S_b1 (g := (mkF m 22 #[.val (.int ua), .val (.int i1), .unset, .unset] [])) rfl (hb hby at_22)
      have st13 : own_Go p e below (T12.setTop (mkF m 25 #[.val (.int ua), .val (.int i1), .unset, .unset] [(.ref b1)])) (s₁.setTop (entryFrame m #[(.int ua)] maxLocals)) := fun t kt => st11 t (ls12 t kt)
      have st14 : own_Go p e below (T12.setTop (mkF m 52 #[.val (.int ua), .val (.int i1), .val (.ref b1), .val (.int (0 : Int32))] [(.ref b1)])) (s₁.setTop (entryFrame m #[(.int ua)] maxLocals)) := fun t kt => st13 t (by
        show Steps p.tables e below (T12.setTop (mkF m 25 #[.val (.int ua), .val (.int i1), .unset, .unset] [(.ref b1)])) _
        refine XS.astoreN X12.here hx rfl (hb hby at_25) rfl rfl (l' := #[.val (.int ua), .val (.int i1), .val (.ref b1), .unset]) rfl ?_
        show Steps p.tables e below (T12.setTop (mkF m 26 #[.val (.int ua), .val (.int i1), .val (.ref b1), .unset] [])) _
        refine XS.iconst X12.here hx rfl (hb hby at_26) ?_
        show Steps p.tables e below (T12.setTop (mkF m 27 #[.val (.int ua), .val (.int i1), .val (.ref b1), .unset] [(.int (0 : Int32))])) _
        refine XS.istoreN X12.here hx rfl (hb hby at_27) rfl (l' := #[.val (.int ua), .val (.int i1), .val (.ref b1), .val (.int (0 : Int32))]) rfl ?_
        show Steps p.tables e below (T12.setTop (mkF m 28 #[.val (.int ua), .val (.int i1), .val (.ref b1), .val (.int (0 : Int32))] [])) _
        refine XS.goto X12.here hx rfl (pc0 := 28) (pc' := 51) rfl (hb hby at_28) (by decide) (by decide) ?_
        show Steps p.tables e below (T12.setTop (mkF m 51 #[.val (.int ua), .val (.int i1), .val (.ref b1), .val (.int (0 : Int32))] [])) _
        refine XS.aloadN X12.here hx rfl (hb hby at_51) rfl rfl ?_
        show Steps p.tables e below (T12.setTop (mkF m 52 #[.val (.int ua), .val (.int i1), .val (.ref b1), .val (.int (0 : Int32))] [(.ref b1)])) _
        exact kt)
      obtain ⟨cq15, kq15, q15a, q15b, q15c⟩ := isOf hZ e12 E_b1
      obtain ⟨_, _, ⟨T15, L15, k15, n15⟩, -, X15, ⟨Lc15, hQ15, l15, y15, z15⟩, ls15⟩ := X12.virtualBack hx (y := (⟨"com/example/strict_launch/strictlaunch/manifest/LaunchMode", "oneInstance", "()Z"⟩ : MethodName)) (z := (⟨"com/example/strict_launch/strictlaunch/manifest/LaunchMode", "oneInstance", "()Z"⟩ : MethodName)) hown (mvT hZ (hw _ (List.mem_of_getElem? (i := 3) rfl))) (mvT hZ (hw _ (List.mem_of_getElem? (i := 4) rfl))) (notFace_of_selects (args := #[]) (mvT hZ (hw _ (List.mem_of_getElem? (i := 6) rfl)))) (mvT hZ (hw _ (List.mem_of_getElem? (i := 6) rfl))) (mvT hZ (hw _ (List.mem_of_getElem? (i := 5) rfl))) (by decide) (backOf (W := 0) (rm_one l Z a0 hw [] b1 b2 b3 h0 n0 Z0 S_b2 S_b3) hZ (hw _ (List.mem_of_getElem? (i := 7) rfl)) (hw _ (List.mem_of_getElem? (i := 1) rfl)) (by decide) (by decide)) q15a q15c (g := (mkF m 52 #[.val (.int ua), .val (.int i1), .val (.ref b1), .val (.int (0 : Int32))] [(.ref b1)])) rfl (by rw [hml]; rfl) (Steps.refl _) (argsL := []) (rest := []) (lenOf own_pd0 rfl) rfl (by show 2 * 0 + _ ≤ _; exact Nat.le_of_eq rfl) (hb hby at_52) (fun _ _ => ⟨rfl, e12, (by decide : 0 + 0 ≤ _), (by decide : 0 + 0 ≤ _)⟩)
      dsimp only [Pt.U, Pt.locs, Pt.cells, Pt.slots] at X15 l15 y15 z15 ls15 hQ15
      subst l15 y15 z15
      obtain ⟨rfl, Nq15, eq15⟩ := hQ15
      have N15 := Fr.app N0 Nq15
      have st16 : own_Go p e below (T15.setTop (mkF m 55 #[.val (.int ua), .val (.int i1), .val (.ref b1), .val (.int (0 : Int32))] [(.int (own_one b1 b2 b3))])) (s₁.setTop (entryFrame m #[(.int ua)] maxLocals)) := fun t kt => st14 t (ls15.trans kt)
      have hc17 : (own_one b1 b2 b3) = (0 : Int32) := by simp [own_one, n12, n13]
      have st18 : own_Go p e below (T15.setTop (mkF m 64 #[.val (.int ua), .val (.int i1), .val (.ref b1), .val (.int (0 : Int32))] [(.int (1 : Int32))])) (s₁.setTop (entryFrame m #[(.int ua)] maxLocals)) := fun t kt => st16 t (by
        show Steps p.tables e below (T15.setTop (mkF m 55 #[.val (.int ua), .val (.int i1), .val (.ref b1), .val (.int (0 : Int32))] [(.int (own_one b1 b2 b3))])) _
        refine XS.iloadN X15.here hx rfl (hb hby at_55) rfl ?_
        show Steps p.tables e below (T15.setTop (mkF m 56 #[.val (.int ua), .val (.int i1), .val (.ref b1), .val (.int (0 : Int32))] [(.int (0 : Int32)), (.int (own_one b1 b2 b3))])) _
        refine XS.icmpNo X15.here hx rfl (hb hby at_56) rfl (teq hc17).2 ?_
        show Steps p.tables e below (T15.setTop (mkF m 59 #[.val (.int ua), .val (.int i1), .val (.ref b1), .val (.int (0 : Int32))] [])) _
        refine XS.iconst X15.here hx rfl (hb hby at_59) ?_
        show Steps p.tables e below (T15.setTop (mkF m 60 #[.val (.int ua), .val (.int i1), .val (.ref b1), .val (.int (0 : Int32))] [(.int (1 : Int32))])) _
        refine XS.goto X15.here hx rfl (pc0 := 60) (pc' := 64) rfl (hb hby at_60) (by decide) (by decide) ?_
        show Steps p.tables e below (T15.setTop (mkF m 64 #[.val (.int ua), .val (.int i1), .val (.ref b1), .val (.int (0 : Int32))] [(.int (1 : Int32))])) _
        exact kt)
      obtain ⟨fs, hr, hrun, hended, hW, hsame⟩ := X15.leave (v := (some (.int (1 : Int32)))) (fun h => by rw [Bd.returns] at h; cases h)
      refine ⟨_, _, st18 _ ?_, hrun, hended, _, _, rfl, ?_, ⟨_, rfl⟩, hW, hsame.mono (by decide) (by decide)⟩
      · exact retN X15 hx (t := .boolean) Bd.returns (by simp) (hb hby at_64) hr
      · show Q_rm_law Z ua b0 b1 b2 b3 h0 n0 _ T15.heap _
        rw [eq15]
        exact ⟨rfl, N15⟩
    · have st19 : own_Go p e below (s₁.setTop (mkF m 33 #[.val (.int ua), .val (.int i1), .unset, .unset] [(.int (2 : Int32)), (.int i1)])) (s₁.setTop (entryFrame m #[(.int ua)] maxLocals)) := fun t kt => st10 t (by
        show Steps p.tables e below (s₁.setTop (mkF m 19 #[.val (.int ua), .val (.int i1), .unset, .unset] [(.int (1 : Int32)), (.int i1)])) _
        refine XS.icmpYes X0.here hx rfl (pc0 := 19) (pc' := 31) rfl (hb hby at_19) rfl (feq q2).2 (by decide) (by decide) ?_
        show Steps p.tables e below (s₁.setTop (mkF m 31 #[.val (.int ua), .val (.int i1), .unset, .unset] [])) _
        refine XS.iloadN X0.here hx rfl (hb hby at_31) rfl ?_
        show Steps p.tables e below (s₁.setTop (mkF m 32 #[.val (.int ua), .val (.int i1), .unset, .unset] [(.int i1)])) _
        refine XS.iconst X0.here hx rfl (hb hby at_32) ?_
        show Steps p.tables e below (s₁.setTop (mkF m 33 #[.val (.int ua), .val (.int i1), .unset, .unset] [(.int (2 : Int32)), (.int i1)])) _
        exact kt)
      by_cases q3 : i1 = (2 : Int32)
      · have st20 : own_Go p e below (s₁.setTop (mkF m 36 #[.val (.int ua), .val (.int i1), .unset, .unset] [])) (s₁.setTop (entryFrame m #[(.int ua)] maxLocals)) := fun t kt => st19 t (by
          show Steps p.tables e below (s₁.setTop (mkF m 33 #[.val (.int ua), .val (.int i1), .unset, .unset] [(.int (2 : Int32)), (.int i1)])) _
          refine XS.icmpNo X0.here hx rfl (hb hby at_33) rfl (teq q3).2 ?_
          show Steps p.tables e below (s₁.setTop (mkF m 36 #[.val (.int ua), .val (.int i1), .unset, .unset] [])) _
          exact kt)
        obtain ⟨T21, X21, e21, ls21⟩ := getS2 X0 hx hZ hown (host := "") (Or.inl (hw _ (List.mem_of_getElem? (i := 13) rfl))) Via.refl e0 S_b2 (g := (mkF m 36 #[.val (.int ua), .val (.int i1), .unset, .unset] [])) rfl (hb hby at_36)
        have st22 : own_Go p e below (T21.setTop (mkF m 39 #[.val (.int ua), .val (.int i1), .unset, .unset] [(.ref b2)])) (s₁.setTop (entryFrame m #[(.int ua)] maxLocals)) := fun t kt => st20 t (ls21 t kt)
        have st23 : own_Go p e below (T21.setTop (mkF m 52 #[.val (.int ua), .val (.int i1), .val (.ref b2), .val (.int (1 : Int32))] [(.ref b2)])) (s₁.setTop (entryFrame m #[(.int ua)] maxLocals)) := fun t kt => st22 t (by
          show Steps p.tables e below (T21.setTop (mkF m 39 #[.val (.int ua), .val (.int i1), .unset, .unset] [(.ref b2)])) _
          refine XS.astoreN X21.here hx rfl (hb hby at_39) rfl rfl (l' := #[.val (.int ua), .val (.int i1), .val (.ref b2), .unset]) rfl ?_
          show Steps p.tables e below (T21.setTop (mkF m 40 #[.val (.int ua), .val (.int i1), .val (.ref b2), .unset] [])) _
          refine XS.iconst X21.here hx rfl (hb hby at_40) ?_
          show Steps p.tables e below (T21.setTop (mkF m 41 #[.val (.int ua), .val (.int i1), .val (.ref b2), .unset] [(.int (1 : Int32))])) _
          refine XS.istoreN X21.here hx rfl (hb hby at_41) rfl (l' := #[.val (.int ua), .val (.int i1), .val (.ref b2), .val (.int (1 : Int32))]) rfl ?_
          show Steps p.tables e below (T21.setTop (mkF m 42 #[.val (.int ua), .val (.int i1), .val (.ref b2), .val (.int (1 : Int32))] [])) _
          refine XS.goto X21.here hx rfl (pc0 := 42) (pc' := 51) rfl (hb hby at_42) (by decide) (by decide) ?_
          show Steps p.tables e below (T21.setTop (mkF m 51 #[.val (.int ua), .val (.int i1), .val (.ref b2), .val (.int (1 : Int32))] [])) _
          refine XS.aloadN X21.here hx rfl (hb hby at_51) rfl rfl ?_
          show Steps p.tables e below (T21.setTop (mkF m 52 #[.val (.int ua), .val (.int i1), .val (.ref b2), .val (.int (1 : Int32))] [(.ref b2)])) _
          exact kt)
        obtain ⟨cq24, kq24, q24a, q24b, q24c⟩ := isOf hZ e21 E_b2
        obtain ⟨_, _, ⟨T24, L24, k24, n24⟩, -, X24, ⟨Lc24, hQ24, l24, y24, z24⟩, ls24⟩ := X21.virtualBack hx (y := (⟨"com/example/strict_launch/strictlaunch/manifest/LaunchMode", "oneInstance", "()Z"⟩ : MethodName)) (z := (⟨"com/example/strict_launch/strictlaunch/manifest/LaunchMode", "oneInstance", "()Z"⟩ : MethodName)) hown (mvT hZ (hw _ (List.mem_of_getElem? (i := 3) rfl))) (mvT hZ (hw _ (List.mem_of_getElem? (i := 4) rfl))) (notFace_of_selects (args := #[]) (mvT hZ (hw _ (List.mem_of_getElem? (i := 6) rfl)))) (mvT hZ (hw _ (List.mem_of_getElem? (i := 6) rfl))) (mvT hZ (hw _ (List.mem_of_getElem? (i := 5) rfl))) (by decide) (backOf (W := 0) (rm_one l Z a0 hw [] b2 b2 b3 h0 n0 Z0 S_b2 S_b3) hZ (hw _ (List.mem_of_getElem? (i := 7) rfl)) (hw _ (List.mem_of_getElem? (i := 1) rfl)) (by decide) (by decide)) q24a q24c (g := (mkF m 52 #[.val (.int ua), .val (.int i1), .val (.ref b2), .val (.int (1 : Int32))] [(.ref b2)])) rfl (by rw [hml]; rfl) (Steps.refl _) (argsL := []) (rest := []) (lenOf own_pd0 rfl) rfl (by show 2 * 0 + _ ≤ _; exact Nat.le_of_eq rfl) (hb hby at_52) (fun _ _ => ⟨rfl, e21, (by decide : 0 + 0 ≤ _), (by decide : 0 + 0 ≤ _)⟩)
        dsimp only [Pt.U, Pt.locs, Pt.cells, Pt.slots] at X24 l24 y24 z24 ls24 hQ24
        subst l24 y24 z24
        obtain ⟨rfl, Nq24, eq24⟩ := hQ24
        have N24 := Fr.app N0 Nq24
        have st25 : own_Go p e below (T24.setTop (mkF m 55 #[.val (.int ua), .val (.int i1), .val (.ref b2), .val (.int (1 : Int32))] [(.int (own_one b2 b2 b3))])) (s₁.setTop (entryFrame m #[(.int ua)] maxLocals)) := fun t kt => st23 t (ls24.trans kt)
        have hc26 : (own_one b2 b2 b3) = (1 : Int32) := by simp [own_one]
        have st27 : own_Go p e below (T24.setTop (mkF m 64 #[.val (.int ua), .val (.int i1), .val (.ref b2), .val (.int (1 : Int32))] [(.int (1 : Int32))])) (s₁.setTop (entryFrame m #[(.int ua)] maxLocals)) := fun t kt => st25 t (by
          show Steps p.tables e below (T24.setTop (mkF m 55 #[.val (.int ua), .val (.int i1), .val (.ref b2), .val (.int (1 : Int32))] [(.int (own_one b2 b2 b3))])) _
          refine XS.iloadN X24.here hx rfl (hb hby at_55) rfl ?_
          show Steps p.tables e below (T24.setTop (mkF m 56 #[.val (.int ua), .val (.int i1), .val (.ref b2), .val (.int (1 : Int32))] [(.int (1 : Int32)), (.int (own_one b2 b2 b3))])) _
          refine XS.icmpNo X24.here hx rfl (hb hby at_56) rfl (teq hc26).2 ?_
          show Steps p.tables e below (T24.setTop (mkF m 59 #[.val (.int ua), .val (.int i1), .val (.ref b2), .val (.int (1 : Int32))] [])) _
          refine XS.iconst X24.here hx rfl (hb hby at_59) ?_
          show Steps p.tables e below (T24.setTop (mkF m 60 #[.val (.int ua), .val (.int i1), .val (.ref b2), .val (.int (1 : Int32))] [(.int (1 : Int32))])) _
          refine XS.goto X24.here hx rfl (pc0 := 60) (pc' := 64) rfl (hb hby at_60) (by decide) (by decide) ?_
          show Steps p.tables e below (T24.setTop (mkF m 64 #[.val (.int ua), .val (.int i1), .val (.ref b2), .val (.int (1 : Int32))] [(.int (1 : Int32))])) _
          exact kt)
        obtain ⟨fs, hr, hrun, hended, hW, hsame⟩ := X24.leave (v := (some (.int (1 : Int32)))) (fun h => by rw [Bd.returns] at h; cases h)
        refine ⟨_, _, st27 _ ?_, hrun, hended, _, _, rfl, ?_, ⟨_, rfl⟩, hW, hsame.mono (by decide) (by decide)⟩
        · exact retN X24 hx (t := .boolean) Bd.returns (by simp) (hb hby at_64) hr
        · show Q_rm_law Z ua b0 b1 b2 b3 h0 n0 _ T24.heap _
          rw [eq24]
          exact ⟨rfl, N24⟩
      · have st28 : own_Go p e below (s₁.setTop (mkF m 45 #[.val (.int ua), .val (.int i1), .unset, .unset] [])) (s₁.setTop (entryFrame m #[(.int ua)] maxLocals)) := fun t kt => st19 t (by
          show Steps p.tables e below (s₁.setTop (mkF m 33 #[.val (.int ua), .val (.int i1), .unset, .unset] [(.int (2 : Int32)), (.int i1)])) _
          refine XS.icmpYes X0.here hx rfl (pc0 := 33) (pc' := 45) rfl (hb hby at_33) rfl (feq q3).2 (by decide) (by decide) ?_
          show Steps p.tables e below (s₁.setTop (mkF m 45 #[.val (.int ua), .val (.int i1), .unset, .unset] [])) _
          exact kt)
        obtain ⟨T29, X29, e29, ls29⟩ := getS2 X0 hx hZ hown (host := "") (Or.inl (hw _ (List.mem_of_getElem? (i := 12) rfl))) Via.refl e0 S_b3 (g := (mkF m 45 #[.val (.int ua), .val (.int i1), .unset, .unset] [])) rfl (hb hby at_45)
        have st30 : own_Go p e below (T29.setTop (mkF m 48 #[.val (.int ua), .val (.int i1), .unset, .unset] [(.ref b3)])) (s₁.setTop (entryFrame m #[(.int ua)] maxLocals)) := fun t kt => st28 t (ls29 t kt)
        have st31 : own_Go p e below (T29.setTop (mkF m 52 #[.val (.int ua), .val (.int i1), .val (.ref b3), .val (.int (1 : Int32))] [(.ref b3)])) (s₁.setTop (entryFrame m #[(.int ua)] maxLocals)) := fun t kt => st30 t (by
          show Steps p.tables e below (T29.setTop (mkF m 48 #[.val (.int ua), .val (.int i1), .unset, .unset] [(.ref b3)])) _
          refine XS.astoreN X29.here hx rfl (hb hby at_48) rfl rfl (l' := #[.val (.int ua), .val (.int i1), .val (.ref b3), .unset]) rfl ?_
          show Steps p.tables e below (T29.setTop (mkF m 49 #[.val (.int ua), .val (.int i1), .val (.ref b3), .unset] [])) _
          refine XS.iconst X29.here hx rfl (hb hby at_49) ?_
          show Steps p.tables e below (T29.setTop (mkF m 50 #[.val (.int ua), .val (.int i1), .val (.ref b3), .unset] [(.int (1 : Int32))])) _
          refine XS.istoreN X29.here hx rfl (hb hby at_50) rfl (l' := #[.val (.int ua), .val (.int i1), .val (.ref b3), .val (.int (1 : Int32))]) rfl ?_
          show Steps p.tables e below (T29.setTop (mkF m 51 #[.val (.int ua), .val (.int i1), .val (.ref b3), .val (.int (1 : Int32))] [])) _
          refine XS.aloadN X29.here hx rfl (hb hby at_51) rfl rfl ?_
          show Steps p.tables e below (T29.setTop (mkF m 52 #[.val (.int ua), .val (.int i1), .val (.ref b3), .val (.int (1 : Int32))] [(.ref b3)])) _
          exact kt)
        obtain ⟨cq32, kq32, q32a, q32b, q32c⟩ := isOf hZ e29 E_b3
        obtain ⟨_, _, ⟨T32, L32, k32, n32⟩, -, X32, ⟨Lc32, hQ32, l32, y32, z32⟩, ls32⟩ := X29.virtualBack hx (y := (⟨"com/example/strict_launch/strictlaunch/manifest/LaunchMode", "oneInstance", "()Z"⟩ : MethodName)) (z := (⟨"com/example/strict_launch/strictlaunch/manifest/LaunchMode", "oneInstance", "()Z"⟩ : MethodName)) hown (mvT hZ (hw _ (List.mem_of_getElem? (i := 3) rfl))) (mvT hZ (hw _ (List.mem_of_getElem? (i := 4) rfl))) (notFace_of_selects (args := #[]) (mvT hZ (hw _ (List.mem_of_getElem? (i := 6) rfl)))) (mvT hZ (hw _ (List.mem_of_getElem? (i := 6) rfl))) (mvT hZ (hw _ (List.mem_of_getElem? (i := 5) rfl))) (by decide) (backOf (W := 0) (rm_one l Z a0 hw [] b3 b2 b3 h0 n0 Z0 S_b2 S_b3) hZ (hw _ (List.mem_of_getElem? (i := 7) rfl)) (hw _ (List.mem_of_getElem? (i := 1) rfl)) (by decide) (by decide)) q32a q32c (g := (mkF m 52 #[.val (.int ua), .val (.int i1), .val (.ref b3), .val (.int (1 : Int32))] [(.ref b3)])) rfl (by rw [hml]; rfl) (Steps.refl _) (argsL := []) (rest := []) (lenOf own_pd0 rfl) rfl (by show 2 * 0 + _ ≤ _; exact Nat.le_of_eq rfl) (hb hby at_52) (fun _ _ => ⟨rfl, e29, (by decide : 0 + 0 ≤ _), (by decide : 0 + 0 ≤ _)⟩)
        dsimp only [Pt.U, Pt.locs, Pt.cells, Pt.slots] at X32 l32 y32 z32 ls32 hQ32
        subst l32 y32 z32
        obtain ⟨rfl, Nq32, eq32⟩ := hQ32
        have N32 := Fr.app N0 Nq32
        have st33 : own_Go p e below (T32.setTop (mkF m 55 #[.val (.int ua), .val (.int i1), .val (.ref b3), .val (.int (1 : Int32))] [(.int (own_one b3 b2 b3))])) (s₁.setTop (entryFrame m #[(.int ua)] maxLocals)) := fun t kt => st31 t (ls32.trans kt)
        have hc34 : (own_one b3 b2 b3) = (1 : Int32) := by simp [own_one]
        have st35 : own_Go p e below (T32.setTop (mkF m 64 #[.val (.int ua), .val (.int i1), .val (.ref b3), .val (.int (1 : Int32))] [(.int (1 : Int32))])) (s₁.setTop (entryFrame m #[(.int ua)] maxLocals)) := fun t kt => st33 t (by
          show Steps p.tables e below (T32.setTop (mkF m 55 #[.val (.int ua), .val (.int i1), .val (.ref b3), .val (.int (1 : Int32))] [(.int (own_one b3 b2 b3))])) _
          refine XS.iloadN X32.here hx rfl (hb hby at_55) rfl ?_
          show Steps p.tables e below (T32.setTop (mkF m 56 #[.val (.int ua), .val (.int i1), .val (.ref b3), .val (.int (1 : Int32))] [(.int (1 : Int32)), (.int (own_one b3 b2 b3))])) _
          refine XS.icmpNo X32.here hx rfl (hb hby at_56) rfl (teq hc34).2 ?_
          show Steps p.tables e below (T32.setTop (mkF m 59 #[.val (.int ua), .val (.int i1), .val (.ref b3), .val (.int (1 : Int32))] [])) _
          refine XS.iconst X32.here hx rfl (hb hby at_59) ?_
          show Steps p.tables e below (T32.setTop (mkF m 60 #[.val (.int ua), .val (.int i1), .val (.ref b3), .val (.int (1 : Int32))] [(.int (1 : Int32))])) _
          refine XS.goto X32.here hx rfl (pc0 := 60) (pc' := 64) rfl (hb hby at_60) (by decide) (by decide) ?_
          show Steps p.tables e below (T32.setTop (mkF m 64 #[.val (.int ua), .val (.int i1), .val (.ref b3), .val (.int (1 : Int32))] [(.int (1 : Int32))])) _
          exact kt)
        obtain ⟨fs, hr, hrun, hended, hW, hsame⟩ := X32.leave (v := (some (.int (1 : Int32)))) (fun h => by rw [Bd.returns] at h; cases h)
        refine ⟨_, _, st35 _ ?_, hrun, hended, _, _, rfl, ?_, ⟨_, rfl⟩, hW, hsame.mono (by decide) (by decide)⟩
        · exact retN X32 hx (t := .boolean) Bd.returns (by simp) (hb hby at_64) hr
        · show Q_rm_law Z ua b0 b1 b2 b3 h0 n0 _ T32.heap _
          rw [eq32]
          exact ⟨rfl, N32⟩
set_option maxRecDepth 65536 in
set_option maxHeartbeats 40000000 in
theorem comes_1 {Post : Tables → Env → Array Value → State → Outcome → State → Prop} (hpost : ∀ tb e args s v u, (limb_1_1.after args s (.returned v) u = true ∧ limb_1_2.after args s (.returned v) u = true ∧ True) → FrameEnd s (.returned v) u (Jvm.fieldLocs frame_1_writes args s ++ Jvm.arrayLocs frame_1_arrays args s ++ Jvm.staticLocs frame_1_statics s) 0 0 → Post tb e args s (.returned v) u) :
    ArmFor flags0 classFile x code maxLocals ret World_1 tables_1 room_1 Calls_1 rest_1 Pre_1 Post := by
  intro l hfl _ _ p e ha hc hk s m args below hf hA hF happ hP
  obtain ⟨hcalls, hrest, hpre⟩ := hP
  obtain ⟨-, -, -, hnamed, -, -, -, hat⟩ := (Spec.applies_iff hf).mp happ
  obtain ⟨hg, hn⟩ := and_e (Cond.before_iff.mp (show (Jvm.Cond.and given_1 narrow_1).before args s = true from hpre))
  obtain ⟨gg1, gg2⟩ := and_e hg
  obtain ⟨w0, rfl⟩ : ∃ w0 : Value, args = #[w0] := by
    have hs : args.size = 1 := by simpa [Cond.value, given_1] using gg1
    obtain ⟨L⟩ := args
    match L, hs with
    | [w0], _ => exact ⟨w0, rfl⟩
  have hw := fun d (hd : d ∈ tables_1) => atoms_spec (ws := Jvm.Cond.code x code maxLocals ret :: tables_1) hat d (List.mem_cons_of_mem _ hd)
  have hfit : Fit s := fun {y c} hc i hi => by
    obtain ⟨ha, rfl⟩ := Array.getElem?_eq_some_iff.mp hc
    have q := List.all_eq_true.mp ((Array.all_eq_true_iff_forall_mem.mp hF) _ (Array.getElem_mem ha)) i (List.mem_range.mpr hi)
    simpa [Array.getElem?_eq_getElem hi] using q
  obtain ⟨i0, ei0⟩ := is_v gg2
  obtain rfl : w0 = (.int i0) := Option.some.inj ei0
  obtain ⟨x1, r1⟩ := and_e hn
  obtain ⟨x2, r2⟩ := and_e r1
  obtain ⟨x3, r3⟩ := and_e r2
  obtain ⟨x4, r4⟩ := and_e r3
  obtain ⟨x5, r5⟩ := and_e r4
  obtain ⟨x6, r6⟩ := and_e r5
  obtain ⟨x7, x8⟩ := and_e r6
  obtain ⟨b0, v0⟩ := exa_v x1
  obtain ⟨b2, v2⟩ := exa_v x2
  obtain ⟨b3, v3⟩ := exa_v x5
  obtain ⟨b1, v1⟩ := exa_v x7
  have S0 := Sta.start v0 (Or.inr ⟨(hw _ (List.mem_of_getElem? (i := 1) rfl)), (hw _ (List.mem_of_getElem? (i := 2) rfl))⟩)
  have E0 := Exa.start v0 x1
  have S1 := Sta.start v1 (Or.inr ⟨(hw _ (List.mem_of_getElem? (i := 1) rfl)), (hw _ (List.mem_of_getElem? (i := 15) rfl))⟩)
  have E1 := Exa.start v1 x7
  have S2 := Sta.start v2 (Or.inr ⟨(hw _ (List.mem_of_getElem? (i := 1) rfl)), (hw _ (List.mem_of_getElem? (i := 9) rfl))⟩)
  have E2 := Exa.start v2 x2
  have S3 := Sta.start v3 (Or.inr ⟨(hw _ (List.mem_of_getElem? (i := 1) rfl)), (hw _ (List.mem_of_getElem? (i := 11) rfl))⟩)
  have E3 := Exa.start v3 x5
  obtain ⟨n, o, h1, h2, h3, _, L, rfl, ⟨rfl, N⟩, hq⟩ := rm_law l s _ hw tables_1 i0 b0 b1 b2 b3 s.heap s.heap.size (Nat.le_refl _) S0 S1 S2 S3 E0 E1 E2 E3 (own_ne v0 v2 x3 x4 (by decide)) (own_ne v0 v3 x3 x6 (by decide)) (own_ne v1 v2 x8 x4 (by decide)) (own_ne v1 v3 x8 x6 (by decide)) p e ha hc hk s m _ below hf ((Spec.applies_iff_loose hf).mp happ).1 ⟨rfl, State.Warmed39.refl s, rfl⟩ trivial
  refine ⟨n, _, h1, h2, h3, hpost _ _ _ _ _ _ ⟨Cond.after_iff.mpr rfl, Cond.after_iff.mpr (eq_i res_at (Term.int_eval (1)) rfl), trivial⟩ ⟨hq.1, hq.2.1, (hq.2.2.sift fun y hy => Or.inr (N y hy)).mono (by decide) (by decide)⟩⟩
theorem main_1_1 : Claimed_1_1 := comes_1 fun _ _ _ _ _ _ h hF => ⟨h.1, hF⟩
theorem main_1_2 : Claimed_1_2 := comes_1 fun _ _ _ _ _ _ h hF => ⟨h.2.1, hF⟩
end Jvm.Pilot.@@N@@
namespace Jvm.Pilot.@@N@@
open Jvm Jvm.ClassFile Sem Op Lib Jvm.Free Jvm.Stand Jvm.Pilot.@@N@@.Jvm.D
/-! MADE BY PROGRAM (witnessworld.py) out of the Statement's table words and the real class files: 12 classes; the members and pool entries that the words name. The judged class is class 1, her method 1. -/
namespace start1
open Jvm.ClassFile
def u (s : String) : CpInfo := .utf8 (stringToUtf16 s)
/-- a pool by its gaps: so many unusable entries, then the entry; so many at the end -/
def gap : Nat → List CpInfo → List CpInfo
  | 0, r => r
  | n + 1, r => .unusable :: gap n r
def poolList (es : List (Nat × CpInfo)) (last : Nat) : List CpInfo := es.foldr (fun e r => gap e.1 (e.2 :: r)) (gap last [])
def pool (es : List (Nat × CpInfo)) (last : Nat) : Array CpInfo := ⟨poolList es last⟩
def fileOf (pool : Array CpInfo) (this : Nat) (attrs : Array Attribute := #[]) (ms : Array MethodInfo := #[]) (fl : Nat := 33) (sup : Nat := 0) (ifs : Array Nat := #[]) (fds : Array FieldInfo := #[]) : ClassFile where
  minorVersion := 0
  majorVersion := 65
  constantPool := pool
  accessFlags := fl
  thisClass := this
  superClass := sup
  interfaces := ifs
  fields := fds
  methods := ms
  attributes := attrs
def plain (name : String) (sup : Option ClassId) : Class where
  name := name
  kind := .ordinary
  loader := none
  accessFlags := 33
  super := sup
  interfaces := #[]
  cf := none
  fields := #[]
  methods := #[]
  instanceTypes := #[]
  staticTypes := #[]
  resolved := #[]
  callSites := []
  init := .initialized
  statics := none
  mirror := none

def pool0 : Array CpInfo := pool [(5, u "<init>"), (0, u "()V"), (1, .class_ 10), (1, u "java/lang/Object")] 113

def k0m0 : Method := { name := "<init>", desc := "()V", sig := { parameters := [], returnType := none }, accessFlags := 1, code := none }
/-- java/lang/Object -/
def k0 : Class := { plain "java/lang/Object" none with
  accessFlags := 33
  interfaces := #[]
  cf := some (fileOf pool0 8 #[] #[{ accessFlags := 1, nameIndex := 5, descriptorIndex := 6, attributes := #[] }] 33 0 #[] #[])
  fields := #[]
  methods := #[k0m0]
  instanceTypes := #[]
  staticTypes := #[]
  resolved := Array.replicate 124 none
  statics := none }

def pool1 : Array CpInfo := pool [(2, .class_ 4), (1, u "java/lang/Object"), (0, u "<init>"), (0, u "()V"), (0, .fieldref 8 9), (0, .class_ 10), (0, .nameAndType 11 12), (0, u "com/example/strict_launch/strictlaunch/manifest/LaunchMode"), (0, u "STANDARD"), (0, u "Lcom/example/strict_launch/strictlaunch/manifest/LaunchMode;"), (0, .fieldref 8 14), (0, .nameAndType 15 12), (0, u "SINGLE_TOP"), (0, .fieldref 8 17), (0, .nameAndType 18 12), (0, u "SINGLE_TASK"), (0, .fieldref 8 20), (0, .nameAndType 21 12), (0, u "SINGLE_INSTANCE"), (0, .methodref 8 23), (0, .nameAndType 24 25), (0, u "oneInstance"), (0, u "()Z"), (0, .class_ 27), (0, u "com/example/strict_launch/strictlaunch/manifest/LaunchModeOneInstancePinLaw"), (2, u "law"), (0, u "(I)Z")] 3

def k1m0 : Method := { name := "<init>", desc := "()V", sig := { parameters := [], returnType := none }, accessFlags := 1, code := none }
def k1c1 : Code := { maxStack := 2, maxLocals := 4, code := code, exceptionTable := #[], attributes := #[] }
def k1m1 : Method := { name := "law", desc := "(I)Z", sig := { parameters := [.int], returnType := some .boolean }, accessFlags := 9, code := some k1c1 }
/-- com/example/strict_launch/strictlaunch/manifest/LaunchModeOneInstancePinLaw -/
def k1 : Class := { plain "com/example/strict_launch/strictlaunch/manifest/LaunchModeOneInstancePinLaw" (some 0) with
  accessFlags := 49
  interfaces := #[]
  cf := some (fileOf pool1 26 #[] #[{ accessFlags := 1, nameIndex := 5, descriptorIndex := 6, attributes := #[] }, { accessFlags := 9, nameIndex := 30, descriptorIndex := 31, attributes := #[] }] 49 2 #[] #[])
  fields := #[]
  methods := #[k1m0, k1m1]
  instanceTypes := #[]
  staticTypes := #[]
  resolved := Array.replicate 35 none
  statics := none }

def pool2 : Array CpInfo := pool [(1, .class_ 2), (0, u "java/lang/constant/Constable"), (0, .class_ 4), (0, u "java/lang/Object")] 6

/-- java/lang/constant/Constable -/
def k2 : Class := { plain "java/lang/constant/Constable" (some 0) with
  accessFlags := 1537
  interfaces := #[]
  cf := some (fileOf pool2 1 #[] #[] 1537 3 #[] #[])
  fields := #[]
  methods := #[]
  instanceTypes := #[]
  staticTypes := #[]
  resolved := Array.replicate 11 none
  statics := none }

def pool3 : Array CpInfo := pool [(1, .class_ 2), (0, u "java/lang/Comparable"), (0, .class_ 4), (0, u "java/lang/Object")] 7

/-- java/lang/Comparable -/
def k3 : Class := { plain "java/lang/Comparable" (some 0) with
  accessFlags := 1537
  interfaces := #[]
  cf := some (fileOf pool3 1 #[] #[] 1537 3 #[] #[])
  fields := #[]
  methods := #[]
  instanceTypes := #[]
  staticTypes := #[]
  resolved := Array.replicate 12 none
  statics := none }

def pool4 : Array CpInfo := pool [(1, .class_ 2), (0, u "java/io/Serializable"), (0, .class_ 4), (0, u "java/lang/Object")] 2

/-- java/io/Serializable -/
def k4 : Class := { plain "java/io/Serializable" (some 0) with
  accessFlags := 1537
  interfaces := #[]
  cf := some (fileOf pool4 1 #[] #[] 1537 3 #[] #[])
  fields := #[]
  methods := #[]
  instanceTypes := #[]
  staticTypes := #[]
  resolved := Array.replicate 7 none
  statics := none }

def pool5 : Array CpInfo := pool [(2, .class_ 4), (1, u "java/lang/Enum"), (0, u "name"), (0, u "Ljava/lang/String;"), (2, u "ordinal"), (0, u "I"), (1, .class_ 14), (1, u "java/lang/Object"), (4, u "hash"), (86, .class_ 108), (1, u "java/lang/Enum$EnumDesc"), (2, .class_ 112), (0, u "java/lang/constant/Constable"), (0, .class_ 114), (0, u "java/lang/Comparable"), (0, .class_ 116), (0, u "java/io/Serializable")] 87

/-- java/lang/Enum -/
def k5 : Class := { plain "java/lang/Enum" (some 0) with
  accessFlags := 1057
  interfaces := #[2, 3, 4]
  cf := some (fileOf pool5 2 #[.nestMembers #[106]] #[] 1057 12 #[111, 113, 115] #[{ accessFlags := 18, nameIndex := 5, descriptorIndex := 6, attributes := #[] }, { accessFlags := 18, nameIndex := 9, descriptorIndex := 10, attributes := #[] }, { accessFlags := 2, nameIndex := 19, descriptorIndex := 10, attributes := #[] }])
  fields := #[{ name := "name", type := (.object "java/lang/String"), accessFlags := 18, slot := 0, constantValue := 0 }, { name := "ordinal", type := .int, accessFlags := 18, slot := 1, constantValue := 0 }, { name := "hash", type := .int, accessFlags := 2, slot := 2, constantValue := 0 }]
  methods := #[]
  instanceTypes := #[(.object "java/lang/String"), .int, .int]
  staticTypes := #[]
  resolved := Array.replicate 204 none
  statics := none }

def pool6 : Array CpInfo := pool [(1, .class_ 2), (0, u "com/example/strict_launch/strictlaunch/manifest/LaunchMode"), (2, u "STANDARD"), (0, u "Lcom/example/strict_launch/strictlaunch/manifest/LaunchMode;"), (2, u "SINGLE_TOP"), (0, .fieldref 1 11), (0, .nameAndType 12 6), (0, u "SINGLE_TASK"), (0, .fieldref 1 14), (0, .nameAndType 15 6), (0, u "SINGLE_INSTANCE"), (2, u "$VALUES"), (0, u "[Lcom/example/strict_launch/strictlaunch/manifest/LaunchMode;"), (6, .class_ 28), (1, u "java/lang/Enum"), (8, u "word"), (0, u "Ljava/lang/String;"), (35, u "oneInstance"), (0, u "()Z")] 7

def k6c0 : Code := { maxStack := 2, maxLocals := 1, code := prog_51_method_5_code, exceptionTable := #[], attributes := #[] }
def k6m0 : Method := { name := "oneInstance", desc := "()Z", sig := { parameters := [], returnType := some .boolean }, accessFlags := 1, code := some k6c0 }
/-- com/example/strict_launch/strictlaunch/manifest/LaunchMode -/
def k6 : Class := { plain "com/example/strict_launch/strictlaunch/manifest/LaunchMode" (some 5) with
  accessFlags := 16433
  interfaces := #[]
  cf := some (fileOf pool6 1 #[] #[{ accessFlags := 1, nameIndex := 74, descriptorIndex := 75, attributes := #[] }] 16433 26 #[] #[{ accessFlags := 16409, nameIndex := 5, descriptorIndex := 6, attributes := #[] }, { accessFlags := 16409, nameIndex := 9, descriptorIndex := 6, attributes := #[] }, { accessFlags := 16409, nameIndex := 12, descriptorIndex := 6, attributes := #[] }, { accessFlags := 16409, nameIndex := 15, descriptorIndex := 6, attributes := #[] }, { accessFlags := 18, nameIndex := 37, descriptorIndex := 38, attributes := #[] }, { accessFlags := 4122, nameIndex := 18, descriptorIndex := 19, attributes := #[] }])
  fields := #[{ name := "STANDARD", type := (.object "com/example/strict_launch/strictlaunch/manifest/LaunchMode"), accessFlags := 16409, slot := 0, constantValue := 0 }, { name := "SINGLE_TOP", type := (.object "com/example/strict_launch/strictlaunch/manifest/LaunchMode"), accessFlags := 16409, slot := 1, constantValue := 0 }, { name := "SINGLE_TASK", type := (.object "com/example/strict_launch/strictlaunch/manifest/LaunchMode"), accessFlags := 16409, slot := 2, constantValue := 0 }, { name := "SINGLE_INSTANCE", type := (.object "com/example/strict_launch/strictlaunch/manifest/LaunchMode"), accessFlags := 16409, slot := 3, constantValue := 0 }, { name := "word", type := (.object "java/lang/String"), accessFlags := 18, slot := 3, constantValue := 0 }, { name := "$VALUES", type := (.array (.object "com/example/strict_launch/strictlaunch/manifest/LaunchMode")), accessFlags := 4122, slot := 4, constantValue := 0 }]
  methods := #[k6m0]
  instanceTypes := #[(.object "java/lang/String"), .int, .int, (.object "java/lang/String")]
  staticTypes := #[(.object "com/example/strict_launch/strictlaunch/manifest/LaunchMode"), (.object "com/example/strict_launch/strictlaunch/manifest/LaunchMode"), (.object "com/example/strict_launch/strictlaunch/manifest/LaunchMode"), (.object "com/example/strict_launch/strictlaunch/manifest/LaunchMode"), (.array (.object "com/example/strict_launch/strictlaunch/manifest/LaunchMode"))]
  resolved := Array.replicate 83 none
  statics := some 0 }

def pool7 : Array CpInfo := pool [(1, u "java/lang/Cloneable"), (0, .class_ 1), (0, u "java/lang/Object"), (0, .class_ 3)] 3

/-- java/lang/Cloneable -/
def k7 : Class := { plain "java/lang/Cloneable" (some 0) with
  accessFlags := 1537
  interfaces := #[]
  cf := some (fileOf pool7 2 #[] #[] 1537 4 #[] #[])
  fields := #[]
  methods := #[]
  instanceTypes := #[]
  staticTypes := #[]
  resolved := Array.replicate 8 none
  statics := none }

/-- the primitive byte -/
def k8 : Class := { plain "byte" none with kind := .primitive 'B', accessFlags := 0x411 }
/-- [B -/
def k9 : Class := { plain "[B" (some 0) with kind := .array 8 .byte, interfaces := #[7, 4], accessFlags := 1041 }

/-- the primitive int -/
def k10 : Class := { plain "int" none with kind := .primitive 'I', accessFlags := 0x411 }
/-- [I -/
def k11 : Class := { plain "[I" (some 0) with kind := .array 10 .int, interfaces := #[7, 4], accessFlags := 1041 }

def heap : Heap := #[{ cls := 6, slots := #[.ref 1, .ref 2, .ref 3, .ref 4, .null], vm := .statics 6 },
  { cls := 6, slots := #[.null, .int 0, .int 0, .null], vm := .none },
  { cls := 6, slots := #[.null, .int 1, .int 0, .null], vm := .none },
  { cls := 6, slots := #[.null, .int 2, .int 0, .null], vm := .none },
  { cls := 6, slots := #[.null, .int 3, .int 0, .null], vm := .none }]
def classes : Array Class := #[k0, k1, k2, k3, k4, k5, k6, k7, k8, k9, k10, k11]
def interned : List (Array UInt16 × Addr) := []
def slotsUsed : Nat := 21
def theMethod : MethodId := ⟨1, 1⟩
def args0 : Array Value := #[.int 5]
def aboutOver (below : List Frame) : State where
  vm := { classes := classes, interned := interned.toArray }
  heap := heap
  slotsUsed := slotsUsed
  threads := #[{ frames := .invoking theMethod args0 :: below }]
def below0 : List Frame := [.native { method := ⟨0, 0⟩, args := #[] }]
def about1 : State := aboutOver below0
def p0 : Program := .bare "" "" ""
def e0 : Env := launch0.env 0 0 0
theorem w_frames : about1.frames = Frame.invoking theMethod args0 :: below0 := rfl
set_option maxRecDepth 65536 in
theorem w_args : argsFit about1.vm theMethod args0 = true := by decide +kernel
set_option maxRecDepth 65536 in
theorem w_heap : heapFits about1 = true := by decide +kernel
set_option maxRecDepth 65536 in
theorem w_runnable : about1.curStatus? = some .runnable := by decide +kernel
set_option maxRecDepth 65536 in
theorem w_alone : about1.alone = true := by decide +kernel
set_option maxRecDepth 65536 in
theorem w_named : about1.methodNamed? x = some theMethod := by decide +kernel
set_option maxRecDepth 65536 in
theorem w_hears : about1.hears theMethod below0 = true := by decide +kernel
set_option maxRecDepth 65536 in
theorem w_ripe : about1.ripe theMethod args0 below0 = true := by decide +kernel
theorem w_running : about1.status = .running := rfl
set_option maxRecDepth 65536 in
theorem w_room : about1.hasRoom e0.platform room_1 = true :=
  launch0.hasRoom_least _ room_1 (by decide +kernel) (by decide +kernel) (by decide +kernel) (by decide +kernel) (by decide +kernel) (by decide +kernel)
theorem allAtoms_all (ts : List Jvm.Cond) (a : Array Jvm.Value) (st : Jvm.State) : (allAtoms ts).before a st = ts.all (fun c => c.before a st) := by
  induction ts with
  | nil => rfl
  | cons c t ih =>
    show (Jvm.Cond.and c (allAtoms t)).before a st = _
    rw [Jvm.Cond.before_and, ih, List.all_cons]
def words1 : List Jvm.Cond := Jvm.Cond.code x code maxLocals ret :: tables_1
/-- a 'code' word, met by the world's own term for the bytes: nothing is compared byte by byte -/
theorem code_word {y : MethodName} {bytes : ByteArray} {mx : Nat} {rt : Option FieldType} {a : Array Value} {s : State} {m : MethodId} {meth : Method} {c : Code} (h1 : s.methodNamed? y = some m) (h2 : s.vm.method? m = some meth) (h3 : meth.code = some c) (h4 : c.code = bytes)
    (h5 : (c.maxLocals == mx && c.exceptionTable.isEmpty && decide (c.maxStack ≤ mostOperands) && decide (meth.sig.returnType = rt) && !meth.locks && decide (parseMethodDescriptor y.desc = some meth.sig)) = true) : (Jvm.Cond.code y bytes mx rt).before a s = true := by
  simp only [Bool.and_eq_true, beq_iff_eq, Bool.not_eq_true', decide_eq_true_eq] at h5
  obtain ⟨⟨⟨⟨⟨g1, g2⟩, g3⟩, g4⟩, g5⟩, g6⟩ := h5
  simp [Cond.before, Cond.holds, Cond.value, h1, h2, h3, h4, g1, g2, g3, g4, g5, g6]
def isCode : Jvm.Cond → Bool
  | .code _ _ _ _ => true
  | _ => false
theorem all_split {L : List Jvm.Cond} {P : Jvm.Cond → Bool} (h1 : L.all (fun c => isCode c || P c) = true) (h2 : ∀ c ∈ L.filter isCode, P c = true) : L.all P = true := by
  refine List.all_eq_true.mpr fun c hc => ?_
  have h := List.all_eq_true.mp h1 c hc
  rcases Bool.eq_false_or_eq_true (isCode c) with hi | hi
  · exact h2 c (List.mem_filter.mpr ⟨hc, hi⟩)
  · simpa [hi] using h
set_option maxRecDepth 65536 in
theorem w_c0 : (Jvm.Cond.code x code maxLocals ret).before args0 about1 = true := code_word (m := ⟨1, 1⟩) (meth := k1m1) (c := k1c1) (by decide +kernel) rfl rfl rfl (by decide +kernel)
set_option maxRecDepth 65536 in
theorem w_c1 : (Jvm.Cond.code ({ cls := "com/example/strict_launch/strictlaunch/manifest/LaunchMode", name := "oneInstance", desc := "()Z" } : Jvm.MethodName) prog_51_method_5_code (1 : Nat) (Option.some Jvm.ClassFile.FieldType.boolean)).before args0 about1 = true := code_word (m := ⟨6, 0⟩) (meth := k6m0) (c := k6c0) (by decide +kernel) rfl rfl rfl (by decide +kernel)
def codes1 : List Jvm.Cond := [Jvm.Cond.code x code maxLocals ret, Jvm.Cond.code ({ cls := "com/example/strict_launch/strictlaunch/manifest/LaunchMode", name := "oneInstance", desc := "()Z" } : Jvm.MethodName) prog_51_method_5_code (1 : Nat) (Option.some Jvm.ClassFile.FieldType.boolean)]
set_option maxRecDepth 65536 in
theorem codes_eq : words1.filter isCode = codes1 := rfl
theorem w_codes : ∀ c ∈ words1.filter isCode, c.before args0 about1 = true := by
  rw [codes_eq]
  intro c hc
  simp only [codes1, List.mem_cons, List.not_mem_nil, or_false] at hc
  rcases hc with rfl | rfl
  · exact w_c0
  · exact w_c1
set_option maxRecDepth 65536 in
theorem w_t1 : words1.all (fun c => isCode c || c.before args0 about1) = true := by decide +kernel
theorem w_tables : (allAtoms (Jvm.Cond.code x code maxLocals ret :: tables_1)).before args0 about1 = true := by
  rw [allAtoms_all]
  show words1.all (fun c => c.before args0 about1) = true
  refine all_split ?_ w_codes
  rw [w_t1]
set_option maxRecDepth 65536 in
theorem w_case : (Jvm.Cond.and given_1 narrow_1).before args0 about1 = true := by decide +kernel
theorem w_applies : (headSpec (Jvm.Cond.code x code maxLocals ret :: tables_1) room_1).applies x e0.platform about1 = true :=
  (Spec.applies_iff w_frames).mpr ⟨w_running, w_runnable, w_alone, w_named, w_hears, w_ripe, w_room, w_tables⟩
theorem atStart : AtStart classFile x code maxLocals ret World_1 tables_1 room_1 Calls_1 rest_1 Pre_1 launch0 p0 e0 about1 theMethod args0 below0 :=
  ⟨lists_1, trivial, launch0.admits_env _ _ _, launch0.least_env, fairChoices_fair.cas, fairChoices_fair.clock, w_frames, w_args, w_heap, w_applies, trivial, trivial, w_case⟩
end start1
theorem witness_1 : WitnessClaimed_1 := ⟨start1.p0, start1.e0, start1.about1, start1.theMethod, start1.args0, start1.below0, start1.atStart⟩
end Jvm.Pilot.@@N@@
