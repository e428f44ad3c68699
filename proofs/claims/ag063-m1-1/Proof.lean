import JvmDerived
import JvmDerived.Pilot.@@N@@Statement
import JvmDerived.Pilot.@@N@@Code
set_option linter.unusedVariables false
set_option linter.unusedSimpArgs false
namespace Jvm.Pilot.@@N@@
open Jvm Jvm.ClassFile Sem Op Lib Jvm.Free Jvm.Stand Jvm.LawKit Jvm.RoadKit Bundle Jvm.Pilot.@@N@@.Jvm.D
abbrev own_Go (p : Program) (e : Env) (below : List Frame) (A B : State) : Prop := ∀ t, Steps p.tables e below A t → Steps p.tables e below B t

def own_app (p : Int32) : Int32 := if p < 10000 then 0 else if 19999 < p then 0 else 1
def own_ref (p : Int32) : Int32 := if p / 10000 = 1 then 1 else 0
theorem own_same (p : Int32) : own_app p = own_ref p := by
  have h := c_idiv p 10000 10000 rfl (by decide)
  have e1 : (10000 : Int32).toInt = 10000 := rfl
  have e2 : (19999 : Int32).toInt = 19999 := rfl
  have e3 : (1 : Int32).toInt = 1 := rfl
  unfold own_app own_ref
  simp only [Int32.lt_iff_toInt_lt, ← Int32.toInt_inj, e1, e2, e3]
  generalize (p / 10000).toInt = q at h
  generalize p.toInt = i at h
  by_cases h1 : i < 10000
  · have : ¬ q = 1 := by omega
    simp [h1, this]
  · by_cases h2 : 19999 < i
    · have : ¬ q = 1 := by omega
      simp [h1, h2, this]
    · have : q = 1 := by omega
      simp [h1, h2, this]

theorem own_pn0 : plainName "com/example/strict_launch/strictlaunch/Uids" = true := by first | (simp [plainName, overriddenIn]; done) | decide +kernel
theorem own_ef1_I (m : MethodId) (x0 : Int32) : entryFrame m #[(.int x0)] 1 = mkF m 0 #[.val (.int x0)] [] := by first | (simp [entryFrame, mkF, argsToLocals, Value.category]; done) | rfl
theorem d1_0 : decode prog_11_method_6_code 0 = .ok (.iload_n 0, 1) := by decide +kernel
theorem d1_1 : decode prog_11_method_6_code 1 = .ok (.sipush 10000, 3) := by decide +kernel
theorem d1_4 : decode prog_11_method_6_code 4 = .ok (.if_icmp .lt 14, 3) := by decide +kernel
theorem d1_18 : decode prog_11_method_6_code 18 = .ok (.iconst 0, 1) := by decide +kernel
theorem d1_19 : decode prog_11_method_6_code 19 = .ok (.ireturn, 1) := by decide +kernel
theorem d1_7 : decode prog_11_method_6_code 7 = .ok (.iload_n 0, 1) := by decide +kernel
theorem d1_8 : decode prog_11_method_6_code 8 = .ok (.sipush 19999, 3) := by decide +kernel
theorem d1_11 : decode prog_11_method_6_code 11 = .ok (.if_icmp .gt 7, 3) := by decide +kernel
theorem d1_14 : decode prog_11_method_6_code 14 = .ok (.iconst 1, 1) := by decide +kernel
theorem d1_15 : decode prog_11_method_6_code 15 = .ok (.goto 4, 3) := by decide +kernel
theorem own_pn1 : plainName "com/example/strict_launch/strictlaunch/UidsIsApplicationAppIdPinLaw" = true := by first | (simp [plainName, overriddenIn]; done) | decide +kernel
theorem own_ef2_I (m : MethodId) (x0 : Int32) : entryFrame m #[(.int x0)] 1 = mkF m 0 #[.val (.int x0)] [] := by first | (simp [entryFrame, mkF, argsToLocals, Value.category]; done) | rfl
theorem d2_0 : decode method_2_code 0 = .ok (.iload_n 0, 1) := by decide +kernel
theorem d2_1 : decode method_2_code 1 = .ok (.sipush 10000, 3) := by decide +kernel
theorem d2_4 : decode method_2_code 4 = .ok (.idiv, 1) := by decide +kernel
theorem d2_5 : decode method_2_code 5 = .ok (.iconst 1, 1) := by decide +kernel
theorem d2_6 : decode method_2_code 6 = .ok (.if_icmp .ne 7, 3) := by decide +kernel
theorem d2_9 : decode method_2_code 9 = .ok (.iconst 1, 1) := by decide +kernel
theorem d2_10 : decode method_2_code 10 = .ok (.goto 4, 3) := by decide +kernel
theorem d2_14 : decode method_2_code 14 = .ok (.ireturn, 1) := by decide +kernel
theorem d2_13 : decode method_2_code 13 = .ok (.iconst 0, 1) := by decide +kernel
theorem own_ef0_II (m : MethodId) (x0 : Int32) (x1 : Int32) : entryFrame m #[(.int x0), (.int x1)] maxLocals = mkF m 0 #[.val (.int x0), .val (.int x1), .unset, .unset, .unset, .unset] [] := by first | (simp [entryFrame, mkF, argsToLocals, Value.category, maxLocals]; done) | rfl
theorem own_pd0 : parseMethodDescriptor "(I)Z" = some ⟨[.int], some .boolean⟩ := by decide +kernel
def Q_rm_app (Z : State) (u : Int32) (h0 : Heap) (n0 : Nat) (v : Option Value) (h : Heap) (L : List Loc) : Prop := v = some (.int (own_app u)) ∧ Fr n0 L ∧ h = h0
set_option maxRecDepth 65536 in
set_option maxHeartbeats 40000000 in
theorem rm_app (l : Launch) (Z : State) (a0 : Array Value) (hw : ∀ d ∈ tables_1, d.before a0 Z = true) (ws : List Jvm.Cond) (u : Int32) (h0 : Heap) (n0 : Nat) (Z0 : n0 ≤ h0.size) :
    MetFree l (⟨"com/example/strict_launch/strictlaunch/Uids", "isApplicationAppId", "(I)Z"⟩ : MethodName) (head1 (Jvm.Cond.code (⟨"com/example/strict_launch/strictlaunch/Uids", "isApplicationAppId", "(I)Z"⟩ : MethodName) prog_11_method_6_code 1 (some .boolean) :: ws) ({ frames := 0, cells := 0, slots := 0, locals := 0 } : Room)) (fun a U => a = #[(.int u)] ∧ Z.Warmed39 U.vm ∧ U.heap = h0) (fun _ _ _ _ _ => True) (fun _ U o U' => ∃ v L, o = .returned v ∧ Q_rm_app Z u h0 n0 v U'.heap L ∧ FrameEnd U o U' L ({ frames := 0, cells := 0, slots := 0, locals := 0 } : Room).cells ({ frames := 0, cells := 0, slots := 0, locals := 0 } : Room).slots) := by
  refine MetFree.of_bodySF (plainFor_of_name own_pn0) hisR ?_
  intro p e s m args below meth c s₁ Bd hml0 hP hK
  obtain ⟨rfl, hZ, hh⟩ := hP
  have hx := Bd.exec
  have hby := Bd.bytes
  have hml : c.maxLocals = 1 := hml0
  have hown : s.vm.findClass "com/example/strict_launch/strictlaunch/Uids" = some m.cls := findClass_of_methodNamed Bd.named
  have hnm := (name_of_methodNamed Bd.named Bd.method).1
  have X0 : Stand p l e ({ frames := 0, cells := 0, slots := 0, locals := 0 } : Room) s m #[(.int u)] below meth c s₁ [] 0 0 := Stand.of_body Bd
  have e0 : s₁.heap = h0 := by rw [← hh, Bd.state]; rfl
  have N0 := Fr.nil n0
  have st0 : own_Go p e below (s₁.setTop (mkF m 0 #[.val (.int u)] [])) (s₁.setTop (entryFrame m #[(.int u)] 1)) := fun t k => castTop (own_ef1_I m u) k
  have st1 : own_Go p e below (s₁.setTop (mkF m 4 #[.val (.int u)] [(.int (10000 : Int32)), (.int u)])) (s₁.setTop (entryFrame m #[(.int u)] 1)) := fun t kt => st0 t (by
    show Steps p.tables e below (s₁.setTop (mkF m 0 #[.val (.int u)] [])) _
    refine XS.iloadN X0.here hx rfl (hb hby d1_0) rfl ?_
    show Steps p.tables e below (s₁.setTop (mkF m 1 #[.val (.int u)] [(.int u)])) _
    refine XS.sipush X0.here hx rfl (hb hby d1_1) ?_
    show Steps p.tables e below (s₁.setTop (mkF m 4 #[.val (.int u)] [(.int (10000 : Int32)), (.int u)])) _
    exact kt)
  by_cases q1 : u < (10000 : Int32)
  · have st2 : own_Go p e below (s₁.setTop (mkF m 19 #[.val (.int u)] [(.int (0 : Int32))])) (s₁.setTop (entryFrame m #[(.int u)] 1)) := fun t kt => st1 t (by
      show Steps p.tables e below (s₁.setTop (mkF m 4 #[.val (.int u)] [(.int (10000 : Int32)), (.int u)])) _
      refine XS.icmpYes X0.here hx rfl (pc0 := 4) (pc' := 18) rfl (hb hby d1_4) rfl (tlt q1).1 (by decide) (by decide) ?_
      show Steps p.tables e below (s₁.setTop (mkF m 18 #[.val (.int u)] [])) _
      refine XS.iconst X0.here hx rfl (hb hby d1_18) ?_
      show Steps p.tables e below (s₁.setTop (mkF m 19 #[.val (.int u)] [(.int (0 : Int32))])) _
      exact kt)
    obtain ⟨fs, hr, hrun, hended, hW, hsame⟩ := X0.leave (v := (some (.int (0 : Int32)))) (fun h => by rw [Bd.returns] at h; cases h)
    refine ⟨_, _, st2 _ ?_, hrun, hended, _, _, rfl, ?_, ⟨_, rfl⟩, hW, hsame.mono (by decide) (by decide)⟩
    · exact retN X0 hx (t := .boolean) Bd.returns (by simp) (hb hby d1_19) hr
    · show Q_rm_app Z u h0 n0 _ s₁.heap _
      rw [e0]
      exact ⟨by simp [own_app, q1], N0, rfl⟩
  · have st3 : own_Go p e below (s₁.setTop (mkF m 11 #[.val (.int u)] [(.int (19999 : Int32)), (.int u)])) (s₁.setTop (entryFrame m #[(.int u)] 1)) := fun t kt => st1 t (by
      show Steps p.tables e below (s₁.setTop (mkF m 4 #[.val (.int u)] [(.int (10000 : Int32)), (.int u)])) _
      refine XS.icmpNo X0.here hx rfl (hb hby d1_4) rfl (flt q1).1 ?_
      show Steps p.tables e below (s₁.setTop (mkF m 7 #[.val (.int u)] [])) _
      refine XS.iloadN X0.here hx rfl (hb hby d1_7) rfl ?_
      show Steps p.tables e below (s₁.setTop (mkF m 8 #[.val (.int u)] [(.int u)])) _
      refine XS.sipush X0.here hx rfl (hb hby d1_8) ?_
      show Steps p.tables e below (s₁.setTop (mkF m 11 #[.val (.int u)] [(.int (19999 : Int32)), (.int u)])) _
      exact kt)
    by_cases q2 : (19999 : Int32) < u
    · have st4 : own_Go p e below (s₁.setTop (mkF m 19 #[.val (.int u)] [(.int (0 : Int32))])) (s₁.setTop (entryFrame m #[(.int u)] 1)) := fun t kt => st3 t (by
        show Steps p.tables e below (s₁.setTop (mkF m 11 #[.val (.int u)] [(.int (19999 : Int32)), (.int u)])) _
        refine XS.icmpYes X0.here hx rfl (pc0 := 11) (pc' := 18) rfl (hb hby d1_11) rfl (tlt q2).2.2.1 (by decide) (by decide) ?_
        show Steps p.tables e below (s₁.setTop (mkF m 18 #[.val (.int u)] [])) _
        refine XS.iconst X0.here hx rfl (hb hby d1_18) ?_
        show Steps p.tables e below (s₁.setTop (mkF m 19 #[.val (.int u)] [(.int (0 : Int32))])) _
        exact kt)
      obtain ⟨fs, hr, hrun, hended, hW, hsame⟩ := X0.leave (v := (some (.int (0 : Int32)))) (fun h => by rw [Bd.returns] at h; cases h)
      refine ⟨_, _, st4 _ ?_, hrun, hended, _, _, rfl, ?_, ⟨_, rfl⟩, hW, hsame.mono (by decide) (by decide)⟩
      · exact retN X0 hx (t := .boolean) Bd.returns (by simp) (hb hby d1_19) hr
      · show Q_rm_app Z u h0 n0 _ s₁.heap _
        rw [e0]
        exact ⟨by simp [own_app, q1, q2], N0, rfl⟩
    · have st5 : own_Go p e below (s₁.setTop (mkF m 19 #[.val (.int u)] [(.int (1 : Int32))])) (s₁.setTop (entryFrame m #[(.int u)] 1)) := fun t kt => st3 t (by
        show Steps p.tables e below (s₁.setTop (mkF m 11 #[.val (.int u)] [(.int (19999 : Int32)), (.int u)])) _
        refine XS.icmpNo X0.here hx rfl (hb hby d1_11) rfl (flt q2).2.2.1 ?_
        show Steps p.tables e below (s₁.setTop (mkF m 14 #[.val (.int u)] [])) _
        refine XS.iconst X0.here hx rfl (hb hby d1_14) ?_
        show Steps p.tables e below (s₁.setTop (mkF m 15 #[.val (.int u)] [(.int (1 : Int32))])) _
        refine XS.goto X0.here hx rfl (pc0 := 15) (pc' := 19) rfl (hb hby d1_15) (by decide) (by decide) ?_
        show Steps p.tables e below (s₁.setTop (mkF m 19 #[.val (.int u)] [(.int (1 : Int32))])) _
        exact kt)
      obtain ⟨fs, hr, hrun, hended, hW, hsame⟩ := X0.leave (v := (some (.int (1 : Int32)))) (fun h => by rw [Bd.returns] at h; cases h)
      refine ⟨_, _, st5 _ ?_, hrun, hended, _, _, rfl, ?_, ⟨_, rfl⟩, hW, hsame.mono (by decide) (by decide)⟩
      · exact retN X0 hx (t := .boolean) Bd.returns (by simp) (hb hby d1_19) hr
      · show Q_rm_app Z u h0 n0 _ s₁.heap _
        rw [e0]
        exact ⟨by simp [own_app, q1, q2], N0, rfl⟩
def Q_rm_ref (Z : State) (u : Int32) (h0 : Heap) (n0 : Nat) (v : Option Value) (h : Heap) (L : List Loc) : Prop := v = some (.int (own_ref u)) ∧ Fr n0 L ∧ h = h0
set_option maxRecDepth 65536 in
set_option maxHeartbeats 40000000 in
theorem rm_ref (l : Launch) (Z : State) (a0 : Array Value) (hw : ∀ d ∈ tables_1, d.before a0 Z = true) (ws : List Jvm.Cond) (u : Int32) (h0 : Heap) (n0 : Nat) (Z0 : n0 ≤ h0.size) :
    MetFree l (⟨"com/example/strict_launch/strictlaunch/UidsIsApplicationAppIdPinLaw", "reference", "(I)Z"⟩ : MethodName) (head1 (Jvm.Cond.code (⟨"com/example/strict_launch/strictlaunch/UidsIsApplicationAppIdPinLaw", "reference", "(I)Z"⟩ : MethodName) method_2_code 1 (some .boolean) :: ws) ({ frames := 0, cells := 0, slots := 0, locals := 0 } : Room)) (fun a U => a = #[(.int u)] ∧ Z.Warmed39 U.vm ∧ U.heap = h0) (fun _ _ _ _ _ => True) (fun _ U o U' => ∃ v L, o = .returned v ∧ Q_rm_ref Z u h0 n0 v U'.heap L ∧ FrameEnd U o U' L ({ frames := 0, cells := 0, slots := 0, locals := 0 } : Room).cells ({ frames := 0, cells := 0, slots := 0, locals := 0 } : Room).slots) := by
  refine MetFree.of_bodySF (plainFor_of_name own_pn1) hisR ?_
  intro p e s m args below meth c s₁ Bd hml0 hP hK
  obtain ⟨rfl, hZ, hh⟩ := hP
  have hx := Bd.exec
  have hby := Bd.bytes
  have hml : c.maxLocals = 1 := hml0
  have hown : s.vm.findClass "com/example/strict_launch/strictlaunch/UidsIsApplicationAppIdPinLaw" = some m.cls := findClass_of_methodNamed Bd.named
  have hnm := (name_of_methodNamed Bd.named Bd.method).1
  have X0 : Stand p l e ({ frames := 0, cells := 0, slots := 0, locals := 0 } : Room) s m #[(.int u)] below meth c s₁ [] 0 0 := Stand.of_body Bd
  have e0 : s₁.heap = h0 := by rw [← hh, Bd.state]; rfl
  have N0 := Fr.nil n0
  have st0 : own_Go p e below (s₁.setTop (mkF m 0 #[.val (.int u)] [])) (s₁.setTop (entryFrame m #[(.int u)] 1)) := fun t k => castTop (own_ef2_I m u) k
  have st1 : own_Go p e below (s₁.setTop (mkF m 6 #[.val (.int u)] [(.int (1 : Int32)), (.int (u / (10000 : Int32)))])) (s₁.setTop (entryFrame m #[(.int u)] 1)) := fun t kt => st0 t (by
    show Steps p.tables e below (s₁.setTop (mkF m 0 #[.val (.int u)] [])) _
    refine XS.iloadN X0.here hx rfl (hb hby d2_0) rfl ?_
    show Steps p.tables e below (s₁.setTop (mkF m 1 #[.val (.int u)] [(.int u)])) _
    refine XS.sipush X0.here hx rfl (hb hby d2_1) ?_
    show Steps p.tables e below (s₁.setTop (mkF m 4 #[.val (.int u)] [(.int (10000 : Int32)), (.int u)])) _
    refine XS.idiv X0.here hx rfl (hb hby d2_4) rfl (by decide) ?_
    show Steps p.tables e below (s₁.setTop (mkF m 5 #[.val (.int u)] [(.int (u / (10000 : Int32)))])) _
    refine XS.iconst X0.here hx rfl (hb hby d2_5) ?_
    show Steps p.tables e below (s₁.setTop (mkF m 6 #[.val (.int u)] [(.int (1 : Int32)), (.int (u / (10000 : Int32)))])) _
    exact kt)
  by_cases q1 : (u / (10000 : Int32)) = (1 : Int32)
  · have st2 : own_Go p e below (s₁.setTop (mkF m 14 #[.val (.int u)] [(.int (1 : Int32))])) (s₁.setTop (entryFrame m #[(.int u)] 1)) := fun t kt => st1 t (by
      show Steps p.tables e below (s₁.setTop (mkF m 6 #[.val (.int u)] [(.int (1 : Int32)), (.int (u / (10000 : Int32)))])) _
      refine XS.icmpNo X0.here hx rfl (hb hby d2_6) rfl (teq q1).2 ?_
      show Steps p.tables e below (s₁.setTop (mkF m 9 #[.val (.int u)] [])) _
      refine XS.iconst X0.here hx rfl (hb hby d2_9) ?_
      show Steps p.tables e below (s₁.setTop (mkF m 10 #[.val (.int u)] [(.int (1 : Int32))])) _
      refine XS.goto X0.here hx rfl (pc0 := 10) (pc' := 14) rfl (hb hby d2_10) (by decide) (by decide) ?_
      show Steps p.tables e below (s₁.setTop (mkF m 14 #[.val (.int u)] [(.int (1 : Int32))])) _
      exact kt)
    obtain ⟨fs, hr, hrun, hended, hW, hsame⟩ := X0.leave (v := (some (.int (1 : Int32)))) (fun h => by rw [Bd.returns] at h; cases h)
    refine ⟨_, _, st2 _ ?_, hrun, hended, _, _, rfl, ?_, ⟨_, rfl⟩, hW, hsame.mono (by decide) (by decide)⟩
    · exact retN X0 hx (t := .boolean) Bd.returns (by simp) (hb hby d2_14) hr
    · show Q_rm_ref Z u h0 n0 _ s₁.heap _
      rw [e0]
      exact ⟨by simp [own_ref, q1], N0, rfl⟩
  · have st3 : own_Go p e below (s₁.setTop (mkF m 14 #[.val (.int u)] [(.int (0 : Int32))])) (s₁.setTop (entryFrame m #[(.int u)] 1)) := fun t kt => st1 t (by
      show Steps p.tables e below (s₁.setTop (mkF m 6 #[.val (.int u)] [(.int (1 : Int32)), (.int (u / (10000 : Int32)))])) _
      refine XS.icmpYes X0.here hx rfl (pc0 := 6) (pc' := 13) rfl (hb hby d2_6) rfl (feq q1).2 (by decide) (by decide) ?_
      show Steps p.tables e below (s₁.setTop (mkF m 13 #[.val (.int u)] [])) _
      refine XS.iconst X0.here hx rfl (hb hby d2_13) ?_
      show Steps p.tables e below (s₁.setTop (mkF m 14 #[.val (.int u)] [(.int (0 : Int32))])) _
      exact kt)
    obtain ⟨fs, hr, hrun, hended, hW, hsame⟩ := X0.leave (v := (some (.int (0 : Int32)))) (fun h => by rw [Bd.returns] at h; cases h)
    refine ⟨_, _, st3 _ ?_, hrun, hended, _, _, rfl, ?_, ⟨_, rfl⟩, hW, hsame.mono (by decide) (by decide)⟩
    · exact retN X0 hx (t := .boolean) Bd.returns (by simp) (hb hby d2_14) hr
    · show Q_rm_ref Z u h0 n0 _ s₁.heap _
      rw [e0]
      exact ⟨by simp [own_ref, q1], N0, rfl⟩
def Q_rm_law (Z : State) (ua : Int32) (ub : Int32) (h0 : Heap) (n0 : Nat) (v : Option Value) (h : Heap) (L : List Loc) : Prop := v = some (.int 1) ∧ Fr n0 L
set_option maxRecDepth 65536 in
set_option maxHeartbeats 40000000 in
theorem rm_law (l : Launch) (Z : State) (a0 : Array Value) (hw : ∀ d ∈ tables_1, d.before a0 Z = true) (ws : List Jvm.Cond) (ua : Int32) (ub : Int32) (h0 : Heap) (n0 : Nat) (Z0 : n0 ≤ h0.size) :
    MetFree l x (head1 (Jvm.Cond.code x code maxLocals ret :: ws) room_1) (fun a U => a = #[(.int ua), (.int ub)] ∧ Z.Warmed39 U.vm ∧ U.heap = h0) (fun _ _ _ _ _ => True) (fun _ U o U' => ∃ v L, o = .returned v ∧ Q_rm_law Z ua ub h0 n0 v U'.heap L ∧ FrameEnd U o U' L room_1.cells room_1.slots) := by
  refine MetFree.of_bodySF (plainFor_of_name own_pn1) hisR ?_
  intro p e s m args below meth c s₁ Bd hml0 hP hK
  obtain ⟨rfl, hZ, hh⟩ := hP
  have hx := Bd.exec
  have hby := Bd.bytes
  have hml : c.maxLocals = 6 := hml0
  have hown : s.vm.findClass "com/example/strict_launch/strictlaunch/UidsIsApplicationAppIdPinLaw" = some m.cls := findClass_of_methodNamed Bd.named
  have hnm := (name_of_methodNamed Bd.named Bd.method).1
  have X0 : Stand p l e room_1 s m #[(.int ua), (.int ub)] below meth c s₁ [] 0 0 := Stand.of_body Bd
  have e0 : s₁.heap = h0 := by rw [← hh, Bd.state]; rfl
  have N0 := Fr.nil n0
  have st0 : own_Go p e below (s₁.setTop (mkF m 0 #[.val (.int ua), .val (.int ub), .unset, .unset, .unset, .unset] [])) (s₁.setTop (entryFrame m #[(.int ua), (.int ub)] maxLocals)) := fun t k => castTop (own_ef0_II m ua ub) k
  have st1 : own_Go p e below (s₁.setTop (mkF m 1 #[.val (.int ua), .val (.int ub), .unset, .unset, .unset, .unset] [(.int ua)])) (s₁.setTop (entryFrame m #[(.int ua), (.int ub)] maxLocals)) := fun t kt => st0 t (by
    show Steps p.tables e below (s₁.setTop (mkF m 0 #[.val (.int ua), .val (.int ub), .unset, .unset, .unset, .unset] [])) _
    refine XS.iloadN X0.here hx rfl (hb hby at_0) rfl ?_
    show Steps p.tables e below (s₁.setTop (mkF m 1 #[.val (.int ua), .val (.int ub), .unset, .unset, .unset, .unset] [(.int ua)])) _
    exact kt)
  obtain ⟨_, _, ⟨T2, L2, k2, n2⟩, -, X2, ⟨Lc2, hQ2, l2, y2, z2⟩, ls2⟩ := Jvm.LawKit.callS X0 hx (y := (⟨"com/example/strict_launch/strictlaunch/Uids", "isApplicationAppId", "(I)Z"⟩ : MethodName)) hown (mvT hZ (hw _ (List.mem_of_getElem? (i := 0) rfl))) (mvT hZ (hw _ (List.mem_of_getElem? (i := 1) rfl))) (mvT hZ (hw _ (List.mem_of_getElem? (i := 2) rfl))) (mvT hZ (hw _ (List.mem_of_getElem? (i := 3) rfl))) (by decide) (backOf (W := 0) (rm_app l Z a0 hw [] ua h0 n0 Z0) hZ (hw _ (List.mem_of_getElem? (i := 3) rfl)) (hw _ (List.mem_of_getElem? (i := 2) rfl)) (by decide) (by decide)) (g := (mkF m 1 #[.val (.int ua), .val (.int ub), .unset, .unset, .unset, .unset] [(.int ua)])) rfl (by rw [hml]; rfl) (argsL := [(.int ua)]) (rest := []) (lenOf own_pd0 rfl) rfl (by show 2 * 0 + _ ≤ _; exact Nat.le_of_eq rfl) (hb hby at_1) (fun _ _ => ⟨rfl, e0, (by decide : 0 + 0 ≤ _), (by decide : 0 + 0 ≤ _)⟩)
  dsimp only [Pt.U, Pt.locs, Pt.cells, Pt.slots] at X2 l2 y2 z2 ls2 hQ2
  subst l2 y2 z2
  obtain ⟨rfl, Nq2, eq2⟩ := hQ2
  have N2 := Fr.app N0 Nq2
  have st3 : own_Go p e below (T2.setTop (mkF m 4 #[.val (.int ua), .val (.int ub), .unset, .unset, .unset, .unset] [(.int (own_app ua))])) (s₁.setTop (entryFrame m #[(.int ua), (.int ub)] maxLocals)) := fun t kt => st1 t (ls2 t kt)
  have st4 : own_Go p e below (T2.setTop (mkF m 5 #[.val (.int ua), .val (.int ub), .unset, .unset, .unset, .unset] [(.int ua), (.int (own_app ua))])) (s₁.setTop (entryFrame m #[(.int ua), (.int ub)] maxLocals)) := fun t kt => st3 t (by
    show Steps p.tables e below (T2.setTop (mkF m 4 #[.val (.int ua), .val (.int ub), .unset, .unset, .unset, .unset] [(.int (own_app ua))])) _
    refine XS.iloadN X2.here hx rfl (hb hby at_4) rfl ?_
    show Steps p.tables e below (T2.setTop (mkF m 5 #[.val (.int ua), .val (.int ub), .unset, .unset, .unset, .unset] [(.int ua), (.int (own_app ua))])) _
    exact kt)
  obtain ⟨_, _, ⟨T5, L5, k5, n5⟩, -, X5, ⟨Lc5, hQ5, l5, y5, z5⟩, ls5⟩ := Jvm.LawKit.callS X2 hx (y := (⟨"com/example/strict_launch/strictlaunch/UidsIsApplicationAppIdPinLaw", "reference", "(I)Z"⟩ : MethodName)) hown (mvT hZ (hw _ (List.mem_of_getElem? (i := 4) rfl))) (mvT hZ (hw _ (List.mem_of_getElem? (i := 5) rfl))) (mvT hZ (hw _ (List.mem_of_getElem? (i := 6) rfl))) (mvT hZ (hw _ (List.mem_of_getElem? (i := 7) rfl))) (by decide) (backOf (W := 1) (rm_ref l Z a0 hw [] ua h0 n0 Z0) hZ (hw _ (List.mem_of_getElem? (i := 7) rfl)) (hw _ (List.mem_of_getElem? (i := 6) rfl)) (by decide) (by decide)) (g := (mkF m 5 #[.val (.int ua), .val (.int ub), .unset, .unset, .unset, .unset] [(.int ua), (.int (own_app ua))])) rfl (by rw [hml]; rfl) (argsL := [(.int ua)]) (rest := [(.int (own_app ua))]) (lenOf own_pd0 rfl) rfl (by show 2 * 0 + _ ≤ _; exact Nat.le_of_eq rfl) (hb hby at_5) (fun _ _ => ⟨rfl, eq2, (by decide : 0 + 0 ≤ _), (by decide : 0 + 0 ≤ _)⟩)
  dsimp only [Pt.U, Pt.locs, Pt.cells, Pt.slots] at X5 l5 y5 z5 ls5 hQ5
  subst l5 y5 z5
  obtain ⟨rfl, Nq5, eq5⟩ := hQ5
  have N5 := Fr.app N2 Nq5
  have st6 : own_Go p e below (T5.setTop (mkF m 8 #[.val (.int ua), .val (.int ub), .unset, .unset, .unset, .unset] [(.int (own_ref ua)), (.int (own_app ua))])) (s₁.setTop (entryFrame m #[(.int ua), (.int ub)] maxLocals)) := fun t kt => st4 t (ls5 t kt)
  have hc7 : (own_app ua) = (own_ref ua) := own_same _
  have st8 : own_Go p e below (T5.setTop (mkF m 20 #[.val (.int ua), .val (.int ub), .val (.int (1 : Int32)), .unset, .unset, .unset] [(.int (ub &&& (1 : Int32)))])) (s₁.setTop (entryFrame m #[(.int ua), (.int ub)] maxLocals)) := fun t kt => st6 t (by
    show Steps p.tables e below (T5.setTop (mkF m 8 #[.val (.int ua), .val (.int ub), .unset, .unset, .unset, .unset] [(.int (own_ref ua)), (.int (own_app ua))])) _
    refine XS.icmpNo X5.here hx rfl (hb hby at_8) rfl (teq hc7).2 ?_
    show Steps p.tables e below (T5.setTop (mkF m 11 #[.val (.int ua), .val (.int ub), .unset, .unset, .unset, .unset] [])) _
    refine XS.iconst X5.here hx rfl (hb hby at_11) ?_
    show Steps p.tables e below (T5.setTop (mkF m 12 #[.val (.int ua), .val (.int ub), .unset, .unset, .unset, .unset] [(.int (1 : Int32))])) _
    refine XS.goto X5.here hx rfl (pc0 := 12) (pc' := 16) rfl (hb hby at_12) (by decide) (by decide) ?_
    show Steps p.tables e below (T5.setTop (mkF m 16 #[.val (.int ua), .val (.int ub), .unset, .unset, .unset, .unset] [(.int (1 : Int32))])) _
    refine XS.istoreN X5.here hx rfl (hb hby at_16) rfl (l' := #[.val (.int ua), .val (.int ub), .val (.int (1 : Int32)), .unset, .unset, .unset]) rfl ?_
    show Steps p.tables e below (T5.setTop (mkF m 17 #[.val (.int ua), .val (.int ub), .val (.int (1 : Int32)), .unset, .unset, .unset] [])) _
    refine XS.iloadN X5.here hx rfl (hb hby at_17) rfl ?_
    show Steps p.tables e below (T5.setTop (mkF m 18 #[.val (.int ua), .val (.int ub), .val (.int (1 : Int32)), .unset, .unset, .unset] [(.int ub)])) _
    refine XS.iconst X5.here hx rfl (hb hby at_18) ?_
    show Steps p.tables e below (T5.setTop (mkF m 19 #[.val (.int ua), .val (.int ub), .val (.int (1 : Int32)), .unset, .unset, .unset] [(.int (1 : Int32)), (.int ub)])) _
    refine XS.iand X5.here hx rfl (hb hby at_19) rfl ?_
    show Steps p.tables e below (T5.setTop (mkF m 20 #[.val (.int ua), .val (.int ub), .val (.int (1 : Int32)), .unset, .unset, .unset] [(.int (ub &&& (1 : Int32)))])) _
    exact kt)
  by_cases q1 : (ub &&& (1 : Int32)) = (0 : Int32)
  · obtain ⟨near, h_near⟩ : ∃ z : Int32, z = ((10000 : Int32) + (((ub >>> ((1 : Int32) &&& 31)) &&& (7 : Int32)) - (4 : Int32))) := ⟨_, rfl⟩
    have st9 : own_Go p e below (T5.setTop (mkF m 47 #[.val (.int ua), .val (.int ub), .val (.int (1 : Int32)), .val (.int (10000 : Int32)), .val (.int near), .unset] [(.int near)])) (s₁.setTop (entryFrame m #[(.int ua), (.int ub)] maxLocals)) := fun t kt => st8 t (by
      show Steps p.tables e below (T5.setTop (mkF m 20 #[.val (.int ua), .val (.int ub), .val (.int (1 : Int32)), .unset, .unset, .unset] [(.int (ub &&& (1 : Int32)))])) _
      refine XS.ifYes X5.here hx rfl (pc0 := 20) (pc' := 29) rfl (hb hby at_20) rfl ((if0 _ _).trans (teq q1).1) (by decide) (by decide) ?_
      show Steps p.tables e below (T5.setTop (mkF m 29 #[.val (.int ua), .val (.int ub), .val (.int (1 : Int32)), .unset, .unset, .unset] [])) _
      refine XS.sipush X5.here hx rfl (hb hby at_29) ?_
      show Steps p.tables e below (T5.setTop (mkF m 32 #[.val (.int ua), .val (.int ub), .val (.int (1 : Int32)), .unset, .unset, .unset] [(.int (10000 : Int32))])) _
      refine XS.istoreN X5.here hx rfl (hb hby at_32) rfl (l' := #[.val (.int ua), .val (.int ub), .val (.int (1 : Int32)), .val (.int (10000 : Int32)), .unset, .unset]) rfl ?_
      show Steps p.tables e below (T5.setTop (mkF m 33 #[.val (.int ua), .val (.int ub), .val (.int (1 : Int32)), .val (.int (10000 : Int32)), .unset, .unset] [])) _
      refine XS.iloadN X5.here hx rfl (hb hby at_33) rfl ?_
      show Steps p.tables e below (T5.setTop (mkF m 34 #[.val (.int ua), .val (.int ub), .val (.int (1 : Int32)), .val (.int (10000 : Int32)), .unset, .unset] [(.int (10000 : Int32))])) _
      refine XS.iloadN X5.here hx rfl (hb hby at_34) rfl ?_
      show Steps p.tables e below (T5.setTop (mkF m 35 #[.val (.int ua), .val (.int ub), .val (.int (1 : Int32)), .val (.int (10000 : Int32)), .unset, .unset] [(.int ub), (.int (10000 : Int32))])) _
      refine XS.iconst X5.here hx rfl (hb hby at_35) ?_
      show Steps p.tables e below (T5.setTop (mkF m 36 #[.val (.int ua), .val (.int ub), .val (.int (1 : Int32)), .val (.int (10000 : Int32)), .unset, .unset] [(.int (1 : Int32)), (.int ub), (.int (10000 : Int32))])) _
      refine XS.ishr X5.here hx rfl (hb hby at_36) rfl ?_
      show Steps p.tables e below (T5.setTop (mkF m 37 #[.val (.int ua), .val (.int ub), .val (.int (1 : Int32)), .val (.int (10000 : Int32)), .unset, .unset] [(.int (ub >>> ((1 : Int32) &&& 31))), (.int (10000 : Int32))])) _
      refine XS.bipush X5.here hx rfl (hb hby at_37) ?_
      show Steps p.tables e below (T5.setTop (mkF m 39 #[.val (.int ua), .val (.int ub), .val (.int (1 : Int32)), .val (.int (10000 : Int32)), .unset, .unset] [(.int (7 : Int32)), (.int (ub >>> ((1 : Int32) &&& 31))), (.int (10000 : Int32))])) _
      refine XS.iand X5.here hx rfl (hb hby at_39) rfl ?_
      show Steps p.tables e below (T5.setTop (mkF m 40 #[.val (.int ua), .val (.int ub), .val (.int (1 : Int32)), .val (.int (10000 : Int32)), .unset, .unset] [(.int ((ub >>> ((1 : Int32) &&& 31)) &&& (7 : Int32))), (.int (10000 : Int32))])) _
      refine XS.iconst X5.here hx rfl (hb hby at_40) ?_
      show Steps p.tables e below (T5.setTop (mkF m 41 #[.val (.int ua), .val (.int ub), .val (.int (1 : Int32)), .val (.int (10000 : Int32)), .unset, .unset] [(.int (4 : Int32)), (.int ((ub >>> ((1 : Int32) &&& 31)) &&& (7 : Int32))), (.int (10000 : Int32))])) _
      refine XS.isub X5.here hx rfl (hb hby at_41) rfl ?_
      show Steps p.tables e below (T5.setTop (mkF m 42 #[.val (.int ua), .val (.int ub), .val (.int (1 : Int32)), .val (.int (10000 : Int32)), .unset, .unset] [(.int (((ub >>> ((1 : Int32) &&& 31)) &&& (7 : Int32)) - (4 : Int32))), (.int (10000 : Int32))])) _
      refine XS.iadd X5.here hx rfl (hb hby at_42) rfl ?_
      show Steps p.tables e below (T5.setTop (mkF m 43 #[.val (.int ua), .val (.int ub), .val (.int (1 : Int32)), .val (.int (10000 : Int32)), .unset, .unset] [(.int ((10000 : Int32) + (((ub >>> ((1 : Int32) &&& 31)) &&& (7 : Int32)) - (4 : Int32))))])) _
      rw [← h_near]
      show Steps p.tables e below (T5.setTop (mkF m 43 #[.val (.int ua), .val (.int ub), .val (.int (1 : Int32)), .val (.int (10000 : Int32)), .unset, .unset] [(.int near)])) _
      refine XS.istore X5.here hx rfl (hb hby at_43) rfl (l' := #[.val (.int ua), .val (.int ub), .val (.int (1 : Int32)), .val (.int (10000 : Int32)), .val (.int near), .unset]) rfl ?_
      show Steps p.tables e below (T5.setTop (mkF m 45 #[.val (.int ua), .val (.int ub), .val (.int (1 : Int32)), .val (.int (10000 : Int32)), .val (.int near), .unset] [])) _
      refine XS.iload X5.here hx rfl (hb hby at_45) rfl ?_
      show Steps p.tables e below (T5.setTop (mkF m 47 #[.val (.int ua), .val (.int ub), .val (.int (1 : Int32)), .val (.int (10000 : Int32)), .val (.int near), .unset] [(.int near)])) _
      exact kt)
    obtain ⟨_, _, ⟨T10, L10, k10, n10⟩, -, X10, ⟨Lc10, hQ10, l10, y10, z10⟩, ls10⟩ := Jvm.LawKit.callS X5 hx (y := (⟨"com/example/strict_launch/strictlaunch/Uids", "isApplicationAppId", "(I)Z"⟩ : MethodName)) hown (mvT hZ (hw _ (List.mem_of_getElem? (i := 0) rfl))) (mvT hZ (hw _ (List.mem_of_getElem? (i := 1) rfl))) (mvT hZ (hw _ (List.mem_of_getElem? (i := 2) rfl))) (mvT hZ (hw _ (List.mem_of_getElem? (i := 3) rfl))) (by decide) (backOf (W := 0) (rm_app l Z a0 hw [] near h0 n0 Z0) hZ (hw _ (List.mem_of_getElem? (i := 3) rfl)) (hw _ (List.mem_of_getElem? (i := 2) rfl)) (by decide) (by decide)) (g := (mkF m 47 #[.val (.int ua), .val (.int ub), .val (.int (1 : Int32)), .val (.int (10000 : Int32)), .val (.int near), .unset] [(.int near)])) rfl (by rw [hml]; rfl) (argsL := [(.int near)]) (rest := []) (lenOf own_pd0 rfl) rfl (by show 2 * 0 + _ ≤ _; exact Nat.le_of_eq rfl) (hb hby at_47) (fun _ _ => ⟨rfl, eq5, (by decide : 0 + 0 ≤ _), (by decide : 0 + 0 ≤ _)⟩)
    dsimp only [Pt.U, Pt.locs, Pt.cells, Pt.slots] at X10 l10 y10 z10 ls10 hQ10
    subst l10 y10 z10
    obtain ⟨rfl, Nq10, eq10⟩ := hQ10
    have N10 := Fr.app N5 Nq10
    have st11 : own_Go p e below (T10.setTop (mkF m 50 #[.val (.int ua), .val (.int ub), .val (.int (1 : Int32)), .val (.int (10000 : Int32)), .val (.int near), .unset] [(.int (own_app near))])) (s₁.setTop (entryFrame m #[(.int ua), (.int ub)] maxLocals)) := fun t kt => st9 t (ls10 t kt)
    have st12 : own_Go p e below (T10.setTop (mkF m 52 #[.val (.int ua), .val (.int ub), .val (.int (1 : Int32)), .val (.int (10000 : Int32)), .val (.int near), .unset] [(.int near), (.int (own_app near))])) (s₁.setTop (entryFrame m #[(.int ua), (.int ub)] maxLocals)) := fun t kt => st11 t (by
      show Steps p.tables e below (T10.setTop (mkF m 50 #[.val (.int ua), .val (.int ub), .val (.int (1 : Int32)), .val (.int (10000 : Int32)), .val (.int near), .unset] [(.int (own_app near))])) _
      refine XS.iload X10.here hx rfl (hb hby at_50) rfl ?_
      show Steps p.tables e below (T10.setTop (mkF m 52 #[.val (.int ua), .val (.int ub), .val (.int (1 : Int32)), .val (.int (10000 : Int32)), .val (.int near), .unset] [(.int near), (.int (own_app near))])) _
      exact kt)
    obtain ⟨_, _, ⟨T13, L13, k13, n13⟩, -, X13, ⟨Lc13, hQ13, l13, y13, z13⟩, ls13⟩ := Jvm.LawKit.callS X10 hx (y := (⟨"com/example/strict_launch/strictlaunch/UidsIsApplicationAppIdPinLaw", "reference", "(I)Z"⟩ : MethodName)) hown (mvT hZ (hw _ (List.mem_of_getElem? (i := 4) rfl))) (mvT hZ (hw _ (List.mem_of_getElem? (i := 5) rfl))) (mvT hZ (hw _ (List.mem_of_getElem? (i := 6) rfl))) (mvT hZ (hw _ (List.mem_of_getElem? (i := 7) rfl))) (by decide) (backOf (W := 1) (rm_ref l Z a0 hw [] near h0 n0 Z0) hZ (hw _ (List.mem_of_getElem? (i := 7) rfl)) (hw _ (List.mem_of_getElem? (i := 6) rfl)) (by decide) (by decide)) (g := (mkF m 52 #[.val (.int ua), .val (.int ub), .val (.int (1 : Int32)), .val (.int (10000 : Int32)), .val (.int near), .unset] [(.int near), (.int (own_app near))])) rfl (by rw [hml]; rfl) (argsL := [(.int near)]) (rest := [(.int (own_app near))]) (lenOf own_pd0 rfl) rfl (by show 2 * 0 + _ ≤ _; exact Nat.le_of_eq rfl) (hb hby at_52) (fun _ _ => ⟨rfl, eq10, (by decide : 0 + 0 ≤ _), (by decide : 0 + 0 ≤ _)⟩)
    dsimp only [Pt.U, Pt.locs, Pt.cells, Pt.slots] at X13 l13 y13 z13 ls13 hQ13
    subst l13 y13 z13
    obtain ⟨rfl, Nq13, eq13⟩ := hQ13
    have N13 := Fr.app N10 Nq13
    have st14 : own_Go p e below (T13.setTop (mkF m 55 #[.val (.int ua), .val (.int ub), .val (.int (1 : Int32)), .val (.int (10000 : Int32)), .val (.int near), .unset] [(.int (own_ref near)), (.int (own_app near))])) (s₁.setTop (entryFrame m #[(.int ua), (.int ub)] maxLocals)) := fun t kt => st12 t (ls13 t kt)
    have hc15 : (own_app near) = (own_ref near) := own_same _
    have hc16 : ¬ ((1 : Int32) = (0 : Int32)) := by decide
    have hc17 : ¬ ((1 : Int32) = (0 : Int32)) := by decide
    have st18 : own_Go p e below (T13.setTop (mkF m 79 #[.val (.int ua), .val (.int ub), .val (.int (1 : Int32)), .val (.int (10000 : Int32)), .val (.int near), .val (.int (1 : Int32))] [(.int (1 : Int32))])) (s₁.setTop (entryFrame m #[(.int ua), (.int ub)] maxLocals)) := fun t kt => st14 t (by
      show Steps p.tables e below (T13.setTop (mkF m 55 #[.val (.int ua), .val (.int ub), .val (.int (1 : Int32)), .val (.int (10000 : Int32)), .val (.int near), .unset] [(.int (own_ref near)), (.int (own_app near))])) _
      refine XS.icmpNo X13.here hx rfl (hb hby at_55) rfl (teq hc15).2 ?_
      show Steps p.tables e below (T13.setTop (mkF m 58 #[.val (.int ua), .val (.int ub), .val (.int (1 : Int32)), .val (.int (10000 : Int32)), .val (.int near), .unset] [])) _
      refine XS.iconst X13.here hx rfl (hb hby at_58) ?_
      show Steps p.tables e below (T13.setTop (mkF m 59 #[.val (.int ua), .val (.int ub), .val (.int (1 : Int32)), .val (.int (10000 : Int32)), .val (.int near), .unset] [(.int (1 : Int32))])) _
      refine XS.goto X13.here hx rfl (pc0 := 59) (pc' := 63) rfl (hb hby at_59) (by decide) (by decide) ?_
      show Steps p.tables e below (T13.setTop (mkF m 63 #[.val (.int ua), .val (.int ub), .val (.int (1 : Int32)), .val (.int (10000 : Int32)), .val (.int near), .unset] [(.int (1 : Int32))])) _
      refine XS.istore X13.here hx rfl (hb hby at_63) rfl (l' := #[.val (.int ua), .val (.int ub), .val (.int (1 : Int32)), .val (.int (10000 : Int32)), .val (.int near), .val (.int (1 : Int32))]) rfl ?_
      show Steps p.tables e below (T13.setTop (mkF m 65 #[.val (.int ua), .val (.int ub), .val (.int (1 : Int32)), .val (.int (10000 : Int32)), .val (.int near), .val (.int (1 : Int32))] [])) _
      refine XS.iloadN X13.here hx rfl (hb hby at_65) rfl ?_
      show Steps p.tables e below (T13.setTop (mkF m 66 #[.val (.int ua), .val (.int ub), .val (.int (1 : Int32)), .val (.int (10000 : Int32)), .val (.int near), .val (.int (1 : Int32))] [(.int (1 : Int32))])) _
      refine XS.ifNo X13.here hx rfl (hb hby at_66) rfl ((if0 _ _).trans (feq hc16).1) ?_
      show Steps p.tables e below (T13.setTop (mkF m 69 #[.val (.int ua), .val (.int ub), .val (.int (1 : Int32)), .val (.int (10000 : Int32)), .val (.int near), .val (.int (1 : Int32))] [])) _
      refine XS.iload X13.here hx rfl (hb hby at_69) rfl ?_
      show Steps p.tables e below (T13.setTop (mkF m 71 #[.val (.int ua), .val (.int ub), .val (.int (1 : Int32)), .val (.int (10000 : Int32)), .val (.int near), .val (.int (1 : Int32))] [(.int (1 : Int32))])) _
      refine XS.ifNo X13.here hx rfl (hb hby at_71) rfl ((if0 _ _).trans (feq hc17).1) ?_
      show Steps p.tables e below (T13.setTop (mkF m 74 #[.val (.int ua), .val (.int ub), .val (.int (1 : Int32)), .val (.int (10000 : Int32)), .val (.int near), .val (.int (1 : Int32))] [])) _
      refine XS.iconst X13.here hx rfl (hb hby at_74) ?_
      show Steps p.tables e below (T13.setTop (mkF m 75 #[.val (.int ua), .val (.int ub), .val (.int (1 : Int32)), .val (.int (10000 : Int32)), .val (.int near), .val (.int (1 : Int32))] [(.int (1 : Int32))])) _
      refine XS.goto X13.here hx rfl (pc0 := 75) (pc' := 79) rfl (hb hby at_75) (by decide) (by decide) ?_
      show Steps p.tables e below (T13.setTop (mkF m 79 #[.val (.int ua), .val (.int ub), .val (.int (1 : Int32)), .val (.int (10000 : Int32)), .val (.int near), .val (.int (1 : Int32))] [(.int (1 : Int32))])) _
      exact kt)
    obtain ⟨fs, hr, hrun, hended, hW, hsame⟩ := X13.leave (v := (some (.int (1 : Int32)))) (fun h => by rw [Bd.returns] at h; cases h)
    refine ⟨_, _, st18 _ ?_, hrun, hended, _, _, rfl, ?_, ⟨_, rfl⟩, hW, hsame.mono (by decide) (by decide)⟩
    · exact retN X13 hx (t := .boolean) Bd.returns (by simp) (hb hby at_79) hr
    · show Q_rm_law Z ua ub h0 n0 _ T13.heap _
      rw [eq13]
      exact ⟨rfl, N13⟩
  · obtain ⟨near, h_near⟩ : ∃ z : Int32, z = ((19999 : Int32) + (((ub >>> ((1 : Int32) &&& 31)) &&& (7 : Int32)) - (4 : Int32))) := ⟨_, rfl⟩
    have st19 : own_Go p e below (T5.setTop (mkF m 47 #[.val (.int ua), .val (.int ub), .val (.int (1 : Int32)), .val (.int (19999 : Int32)), .val (.int near), .unset] [(.int near)])) (s₁.setTop (entryFrame m #[(.int ua), (.int ub)] maxLocals)) := fun t kt => st8 t (by
      show Steps p.tables e below (T5.setTop (mkF m 20 #[.val (.int ua), .val (.int ub), .val (.int (1 : Int32)), .unset, .unset, .unset] [(.int (ub &&& (1 : Int32)))])) _
      refine XS.ifNo X5.here hx rfl (hb hby at_20) rfl ((if0 _ _).trans (feq q1).1) ?_
      show Steps p.tables e below (T5.setTop (mkF m 23 #[.val (.int ua), .val (.int ub), .val (.int (1 : Int32)), .unset, .unset, .unset] [])) _
      refine XS.sipush X5.here hx rfl (hb hby at_23) ?_
      show Steps p.tables e below (T5.setTop (mkF m 26 #[.val (.int ua), .val (.int ub), .val (.int (1 : Int32)), .unset, .unset, .unset] [(.int (19999 : Int32))])) _
      refine XS.goto X5.here hx rfl (pc0 := 26) (pc' := 32) rfl (hb hby at_26) (by decide) (by decide) ?_
      show Steps p.tables e below (T5.setTop (mkF m 32 #[.val (.int ua), .val (.int ub), .val (.int (1 : Int32)), .unset, .unset, .unset] [(.int (19999 : Int32))])) _
      refine XS.istoreN X5.here hx rfl (hb hby at_32) rfl (l' := #[.val (.int ua), .val (.int ub), .val (.int (1 : Int32)), .val (.int (19999 : Int32)), .unset, .unset]) rfl ?_
      show Steps p.tables e below (T5.setTop (mkF m 33 #[.val (.int ua), .val (.int ub), .val (.int (1 : Int32)), .val (.int (19999 : Int32)), .unset, .unset] [])) _
      refine XS.iloadN X5.here hx rfl (hb hby at_33) rfl ?_
      show Steps p.tables e below (T5.setTop (mkF m 34 #[.val (.int ua), .val (.int ub), .val (.int (1 : Int32)), .val (.int (19999 : Int32)), .unset, .unset] [(.int (19999 : Int32))])) _
      refine XS.iloadN X5.here hx rfl (hb hby at_34) rfl ?_
      show Steps p.tables e below (T5.setTop (mkF m 35 #[.val (.int ua), .val (.int ub), .val (.int (1 : Int32)), .val (.int (19999 : Int32)), .unset, .unset] [(.int ub), (.int (19999 : Int32))])) _
      refine XS.iconst X5.here hx rfl (hb hby at_35) ?_
      show Steps p.tables e below (T5.setTop (mkF m 36 #[.val (.int ua), .val (.int ub), .val (.int (1 : Int32)), .val (.int (19999 : Int32)), .unset, .unset] [(.int (1 : Int32)), (.int ub), (.int (19999 : Int32))])) _
      refine XS.ishr X5.here hx rfl (hb hby at_36) rfl ?_
      show Steps p.tables e below (T5.setTop (mkF m 37 #[.val (.int ua), .val (.int ub), .val (.int (1 : Int32)), .val (.int (19999 : Int32)), .unset, .unset] [(.int (ub >>> ((1 : Int32) &&& 31))), (.int (19999 : Int32))])) _
      refine XS.bipush X5.here hx rfl (hb hby at_37) ?_
      show Steps p.tables e below (T5.setTop (mkF m 39 #[.val (.int ua), .val (.int ub), .val (.int (1 : Int32)), .val (.int (19999 : Int32)), .unset, .unset] [(.int (7 : Int32)), (.int (ub >>> ((1 : Int32) &&& 31))), (.int (19999 : Int32))])) _
      refine XS.iand X5.here hx rfl (hb hby at_39) rfl ?_
      show Steps p.tables e below (T5.setTop (mkF m 40 #[.val (.int ua), .val (.int ub), .val (.int (1 : Int32)), .val (.int (19999 : Int32)), .unset, .unset] [(.int ((ub >>> ((1 : Int32) &&& 31)) &&& (7 : Int32))), (.int (19999 : Int32))])) _
      refine XS.iconst X5.here hx rfl (hb hby at_40) ?_
      show Steps p.tables e below (T5.setTop (mkF m 41 #[.val (.int ua), .val (.int ub), .val (.int (1 : Int32)), .val (.int (19999 : Int32)), .unset, .unset] [(.int (4 : Int32)), (.int ((ub >>> ((1 : Int32) &&& 31)) &&& (7 : Int32))), (.int (19999 : Int32))])) _
      refine XS.isub X5.here hx rfl (hb hby at_41) rfl ?_
      show Steps p.tables e below (T5.setTop (mkF m 42 #[.val (.int ua), .val (.int ub), .val (.int (1 : Int32)), .val (.int (19999 : Int32)), .unset, .unset] [(.int (((ub >>> ((1 : Int32) &&& 31)) &&& (7 : Int32)) - (4 : Int32))), (.int (19999 : Int32))])) _
      refine XS.iadd X5.here hx rfl (hb hby at_42) rfl ?_
      show Steps p.tables e below (T5.setTop (mkF m 43 #[.val (.int ua), .val (.int ub), .val (.int (1 : Int32)), .val (.int (19999 : Int32)), .unset, .unset] [(.int ((19999 : Int32) + (((ub >>> ((1 : Int32) &&& 31)) &&& (7 : Int32)) - (4 : Int32))))])) _
      rw [← h_near]
      show Steps p.tables e below (T5.setTop (mkF m 43 #[.val (.int ua), .val (.int ub), .val (.int (1 : Int32)), .val (.int (19999 : Int32)), .unset, .unset] [(.int near)])) _
      refine XS.istore X5.here hx rfl (hb hby at_43) rfl (l' := #[.val (.int ua), .val (.int ub), .val (.int (1 : Int32)), .val (.int (19999 : Int32)), .val (.int near), .unset]) rfl ?_
      show Steps p.tables e below (T5.setTop (mkF m 45 #[.val (.int ua), .val (.int ub), .val (.int (1 : Int32)), .val (.int (19999 : Int32)), .val (.int near), .unset] [])) _
      refine XS.iload X5.here hx rfl (hb hby at_45) rfl ?_
      show Steps p.tables e below (T5.setTop (mkF m 47 #[.val (.int ua), .val (.int ub), .val (.int (1 : Int32)), .val (.int (19999 : Int32)), .val (.int near), .unset] [(.int near)])) _
      exact kt)
    obtain ⟨_, _, ⟨T20, L20, k20, n20⟩, -, X20, ⟨Lc20, hQ20, l20, y20, z20⟩, ls20⟩ := Jvm.LawKit.callS X5 hx (y := (⟨"com/example/strict_launch/strictlaunch/Uids", "isApplicationAppId", "(I)Z"⟩ : MethodName)) hown (mvT hZ (hw _ (List.mem_of_getElem? (i := 0) rfl))) (mvT hZ (hw _ (List.mem_of_getElem? (i := 1) rfl))) (mvT hZ (hw _ (List.mem_of_getElem? (i := 2) rfl))) (mvT hZ (hw _ (List.mem_of_getElem? (i := 3) rfl))) (by decide) (backOf (W := 0) (rm_app l Z a0 hw [] near h0 n0 Z0) hZ (hw _ (List.mem_of_getElem? (i := 3) rfl)) (hw _ (List.mem_of_getElem? (i := 2) rfl)) (by decide) (by decide)) (g := (mkF m 47 #[.val (.int ua), .val (.int ub), .val (.int (1 : Int32)), .val (.int (19999 : Int32)), .val (.int near), .unset] [(.int near)])) rfl (by rw [hml]; rfl) (argsL := [(.int near)]) (rest := []) (lenOf own_pd0 rfl) rfl (by show 2 * 0 + _ ≤ _; exact Nat.le_of_eq rfl) (hb hby at_47) (fun _ _ => ⟨rfl, eq5, (by decide : 0 + 0 ≤ _), (by decide : 0 + 0 ≤ _)⟩)
    dsimp only [Pt.U, Pt.locs, Pt.cells, Pt.slots] at X20 l20 y20 z20 ls20 hQ20
    subst l20 y20 z20
    obtain ⟨rfl, Nq20, eq20⟩ := hQ20
    have N20 := Fr.app N5 Nq20
    have st21 : own_Go p e below (T20.setTop (mkF m 50 #[.val (.int ua), .val (.int ub), .val (.int (1 : Int32)), .val (.int (19999 : Int32)), .val (.int near), .unset] [(.int (own_app near))])) (s₁.setTop (entryFrame m #[(.int ua), (.int ub)] maxLocals)) := fun t kt => st19 t (ls20 t kt)
    have st22 : own_Go p e below (T20.setTop (mkF m 52 #[.val (.int ua), .val (.int ub), .val (.int (1 : Int32)), .val (.int (19999 : Int32)), .val (.int near), .unset] [(.int near), (.int (own_app near))])) (s₁.setTop (entryFrame m #[(.int ua), (.int ub)] maxLocals)) := fun t kt => st21 t (by
      show Steps p.tables e below (T20.setTop (mkF m 50 #[.val (.int ua), .val (.int ub), .val (.int (1 : Int32)), .val (.int (19999 : Int32)), .val (.int near), .unset] [(.int (own_app near))])) _
      refine XS.iload X20.here hx rfl (hb hby at_50) rfl ?_
      show Steps p.tables e below (T20.setTop (mkF m 52 #[.val (.int ua), .val (.int ub), .val (.int (1 : Int32)), .val (.int (19999 : Int32)), .val (.int near), .unset] [(.int near), (.int (own_app near))])) _
      exact kt)
    obtain ⟨_, _, ⟨T23, L23, k23, n23⟩, -, X23, ⟨Lc23, hQ23, l23, y23, z23⟩, ls23⟩ := Jvm.LawKit.callS X20 hx (y := (⟨"com/example/strict_launch/strictlaunch/UidsIsApplicationAppIdPinLaw", "reference", "(I)Z"⟩ : MethodName)) hown (mvT hZ (hw _ (List.mem_of_getElem? (i := 4) rfl))) (mvT hZ (hw _ (List.mem_of_getElem? (i := 5) rfl))) (mvT hZ (hw _ (List.mem_of_getElem? (i := 6) rfl))) (mvT hZ (hw _ (List.mem_of_getElem? (i := 7) rfl))) (by decide) (backOf (W := 1) (rm_ref l Z a0 hw [] near h0 n0 Z0) hZ (hw _ (List.mem_of_getElem? (i := 7) rfl)) (hw _ (List.mem_of_getElem? (i := 6) rfl)) (by decide) (by decide)) (g := (mkF m 52 #[.val (.int ua), .val (.int ub), .val (.int (1 : Int32)), .val (.int (19999 : Int32)), .val (.int near), .unset] [(.int near), (.int (own_app near))])) rfl (by rw [hml]; rfl) (argsL := [(.int near)]) (rest := [(.int (own_app near))]) (lenOf own_pd0 rfl) rfl (by show 2 * 0 + _ ≤ _; exact Nat.le_of_eq rfl) (hb hby at_52) (fun _ _ => ⟨rfl, eq20, (by decide : 0 + 0 ≤ _), (by decide : 0 + 0 ≤ _)⟩)
    dsimp only [Pt.U, Pt.locs, Pt.cells, Pt.slots] at X23 l23 y23 z23 ls23 hQ23
    subst l23 y23 z23
    obtain ⟨rfl, Nq23, eq23⟩ := hQ23
    have N23 := Fr.app N20 Nq23
    have st24 : own_Go p e below (T23.setTop (mkF m 55 #[.val (.int ua), .val (.int ub), .val (.int (1 : Int32)), .val (.int (19999 : Int32)), .val (.int near), .unset] [(.int (own_ref near)), (.int (own_app near))])) (s₁.setTop (entryFrame m #[(.int ua), (.int ub)] maxLocals)) := fun t kt => st22 t (ls23 t kt)
    have hc25 : (own_app near) = (own_ref near) := own_same _
    have hc26 : ¬ ((1 : Int32) = (0 : Int32)) := by decide
    have hc27 : ¬ ((1 : Int32) = (0 : Int32)) := by decide
    have st28 : own_Go p e below (T23.setTop (mkF m 79 #[.val (.int ua), .val (.int ub), .val (.int (1 : Int32)), .val (.int (19999 : Int32)), .val (.int near), .val (.int (1 : Int32))] [(.int (1 : Int32))])) (s₁.setTop (entryFrame m #[(.int ua), (.int ub)] maxLocals)) := fun t kt => st24 t (by
      show Steps p.tables e below (T23.setTop (mkF m 55 #[.val (.int ua), .val (.int ub), .val (.int (1 : Int32)), .val (.int (19999 : Int32)), .val (.int near), .unset] [(.int (own_ref near)), (.int (own_app near))])) _
      refine XS.icmpNo X23.here hx rfl (hb hby at_55) rfl (teq hc25).2 ?_
      show Steps p.tables e below (T23.setTop (mkF m 58 #[.val (.int ua), .val (.int ub), .val (.int (1 : Int32)), .val (.int (19999 : Int32)), .val (.int near), .unset] [])) _
      refine XS.iconst X23.here hx rfl (hb hby at_58) ?_
      show Steps p.tables e below (T23.setTop (mkF m 59 #[.val (.int ua), .val (.int ub), .val (.int (1 : Int32)), .val (.int (19999 : Int32)), .val (.int near), .unset] [(.int (1 : Int32))])) _
      refine XS.goto X23.here hx rfl (pc0 := 59) (pc' := 63) rfl (hb hby at_59) (by decide) (by decide) ?_
      show Steps p.tables e below (T23.setTop (mkF m 63 #[.val (.int ua), .val (.int ub), .val (.int (1 : Int32)), .val (.int (19999 : Int32)), .val (.int near), .unset] [(.int (1 : Int32))])) _
      refine XS.istore X23.here hx rfl (hb hby at_63) rfl (l' := #[.val (.int ua), .val (.int ub), .val (.int (1 : Int32)), .val (.int (19999 : Int32)), .val (.int near), .val (.int (1 : Int32))]) rfl ?_
      show Steps p.tables e below (T23.setTop (mkF m 65 #[.val (.int ua), .val (.int ub), .val (.int (1 : Int32)), .val (.int (19999 : Int32)), .val (.int near), .val (.int (1 : Int32))] [])) _
      refine XS.iloadN X23.here hx rfl (hb hby at_65) rfl ?_
      show Steps p.tables e below (T23.setTop (mkF m 66 #[.val (.int ua), .val (.int ub), .val (.int (1 : Int32)), .val (.int (19999 : Int32)), .val (.int near), .val (.int (1 : Int32))] [(.int (1 : Int32))])) _
      refine XS.ifNo X23.here hx rfl (hb hby at_66) rfl ((if0 _ _).trans (feq hc26).1) ?_
      show Steps p.tables e below (T23.setTop (mkF m 69 #[.val (.int ua), .val (.int ub), .val (.int (1 : Int32)), .val (.int (19999 : Int32)), .val (.int near), .val (.int (1 : Int32))] [])) _
      refine XS.iload X23.here hx rfl (hb hby at_69) rfl ?_
      show Steps p.tables e below (T23.setTop (mkF m 71 #[.val (.int ua), .val (.int ub), .val (.int (1 : Int32)), .val (.int (19999 : Int32)), .val (.int near), .val (.int (1 : Int32))] [(.int (1 : Int32))])) _
      refine XS.ifNo X23.here hx rfl (hb hby at_71) rfl ((if0 _ _).trans (feq hc27).1) ?_
      show Steps p.tables e below (T23.setTop (mkF m 74 #[.val (.int ua), .val (.int ub), .val (.int (1 : Int32)), .val (.int (19999 : Int32)), .val (.int near), .val (.int (1 : Int32))] [])) _
      refine XS.iconst X23.here hx rfl (hb hby at_74) ?_
      show Steps p.tables e below (T23.setTop (mkF m 75 #[.val (.int ua), .val (.int ub), .val (.int (1 : Int32)), .val (.int (19999 : Int32)), .val (.int near), .val (.int (1 : Int32))] [(.int (1 : Int32))])) _
      refine XS.goto X23.here hx rfl (pc0 := 75) (pc' := 79) rfl (hb hby at_75) (by decide) (by decide) ?_
      show Steps p.tables e below (T23.setTop (mkF m 79 #[.val (.int ua), .val (.int ub), .val (.int (1 : Int32)), .val (.int (19999 : Int32)), .val (.int near), .val (.int (1 : Int32))] [(.int (1 : Int32))])) _
      exact kt)
    obtain ⟨fs, hr, hrun, hended, hW, hsame⟩ := X23.leave (v := (some (.int (1 : Int32)))) (fun h => by rw [Bd.returns] at h; cases h)
    refine ⟨_, _, st28 _ ?_, hrun, hended, _, _, rfl, ?_, ⟨_, rfl⟩, hW, hsame.mono (by decide) (by decide)⟩
    · exact retN X23 hx (t := .boolean) Bd.returns (by simp) (hb hby at_79) hr
    · show Q_rm_law Z ua ub h0 n0 _ T23.heap _
      rw [eq23]
      exact ⟨rfl, N23⟩
set_option maxRecDepth 65536 in
set_option maxHeartbeats 40000000 in
theorem comes_1 {Post : Tables → Env → Array Value → State → Outcome → State → Prop} (hpost : ∀ tb e args s v u, (limb_1_1.after args s (.returned v) u = true ∧ limb_1_2.after args s (.returned v) u = true ∧ True) → FrameEnd s (.returned v) u (Jvm.fieldLocs frame_1_writes args s ++ Jvm.arrayLocs frame_1_arrays args s ++ Jvm.staticLocs frame_1_statics s) 0 0 → Post tb e args s (.returned v) u) :
    ArmFor flags0 classFile x code maxLocals ret World_1 tables_1 room_1 Calls_1 rest_1 Pre_1 Post := by
  intro l hfl _ _ p e ha hc hk s m args below hf hA hF happ hP
  obtain ⟨hcalls, hrest, hpre⟩ := hP
  obtain ⟨-, -, -, hnamed, -, -, -, hat⟩ := (Spec.applies_iff hf).mp happ
  obtain ⟨hg, hn⟩ := and_e (Cond.before_iff.mp (show (Jvm.Cond.and given_1 narrow_1).before args s = true from hpre))
  obtain ⟨gg1, gg2⟩ := and_e hg
  obtain ⟨gg3, gg4⟩ := and_e gg2
  obtain ⟨w0, w1, rfl⟩ : ∃ w0 w1 : Value, args = #[w0, w1] := by
    have hs : args.size = 2 := by simpa [Cond.value, given_1] using gg1
    obtain ⟨L⟩ := args
    match L, hs with
    | [w0, w1], _ => exact ⟨w0, w1, rfl⟩
  have hw := fun d (hd : d ∈ tables_1) => atoms_spec (ws := Jvm.Cond.code x code maxLocals ret :: tables_1) hat d (List.mem_cons_of_mem _ hd)
  have hfit : Fit s := fun {y c} hc i hi => by
    obtain ⟨ha, rfl⟩ := Array.getElem?_eq_some_iff.mp hc
    have q := List.all_eq_true.mp ((Array.all_eq_true_iff_forall_mem.mp hF) _ (Array.getElem_mem ha)) i (List.mem_range.mpr hi)
    simpa [Array.getElem?_eq_getElem hi] using q
  obtain ⟨i0, ei0⟩ := is_v gg3
  obtain rfl : w0 = (.int i0) := Option.some.inj ei0
  obtain ⟨i1, ei1⟩ := is_v gg4
  obtain rfl : w1 = (.int i1) := Option.some.inj ei1
  obtain ⟨n, o, h1, h2, h3, _, L, rfl, ⟨rfl, N⟩, hq⟩ := rm_law l s _ hw tables_1 i0 i1  s.heap s.heap.size (Nat.le_refl _)  p e ha hc hk s m _ below hf ((Spec.applies_iff_loose hf).mp happ).1 ⟨rfl, State.Warmed39.refl s, rfl⟩ trivial
  refine ⟨n, _, h1, h2, h3, hpost _ _ _ _ _ _ ⟨Cond.after_iff.mpr rfl, Cond.after_iff.mpr (eq_i res_at (Term.int_eval (1)) rfl), trivial⟩ ⟨hq.1, hq.2.1, (hq.2.2.sift fun y hy => Or.inr (N y hy)).mono (by decide) (by decide)⟩⟩
theorem main_1_1 : Claimed_1_1 := comes_1 fun _ _ _ _ _ _ h hF => ⟨h.1, hF⟩
theorem main_1_2 : Claimed_1_2 := comes_1 fun _ _ _ _ _ _ h hF => ⟨h.2.1, hF⟩
end Jvm.Pilot.@@N@@
namespace Jvm.Pilot.@@N@@
open Jvm Jvm.ClassFile Sem Op Lib Jvm.Free Jvm.Stand Jvm.Pilot.@@N@@.Jvm.D
/-! MADE BY PROGRAM (witnessworld.py) out of the Statement's table words and the real class files: 7 classes; the members and pool entries that the words name. The judged class is class 1, her method 2. -/
namespace start1
open Jvm.ClassFile
def u (s : String) : CpInfo := .utf8 (stringToUtf16 s)
/-- a pool by its gaps: so many unusable entries, then the entry; so many at the end -/
def gap : Nat → List CpInfo → List CpInfo
  | 0, r => r
  | n + 1, r => .unusable :: gap n r
def poolList (es : List (Nat × CpInfo)) (last : Nat) : List CpInfo := es.foldr (fun e r => gap e.1 (e.2 :: r)) (gap last [])
def pool (es : List (Nat × CpInfo)) (last : Nat) : Array CpInfo := ⟨poolList es last⟩
def fileOf (pool : Array CpInfo) (this : Nat) (attrs : Array Attribute := #[]) (ms : Array MethodInfo := #[]) (fl : Nat := 33) (sup : Nat := 0) (ifs : Array Nat := #[]) (fds : Array FieldInfo := #[]) : ClassFile where
  minorVersion := 0
  majorVersion := 65
  constantPool := pool
  accessFlags := fl
  thisClass := this
  superClass := sup
  interfaces := ifs
  fields := fds
  methods := ms
  attributes := attrs
def plain (name : String) (sup : Option ClassId) : Class where
  name := name
  kind := .ordinary
  loader := none
  accessFlags := 33
  super := sup
  interfaces := #[]
  cf := none
  fields := #[]
  methods := #[]
  instanceTypes := #[]
  staticTypes := #[]
  resolved := #[]
  callSites := []
  init := .initialized
  statics := none
  mirror := none

def pool0 : Array CpInfo := pool [(5, u "<init>"), (0, u "()V"), (1, .class_ 10), (1, u "java/lang/Object")] 113

def k0m0 : Method := { name := "<init>", desc := "()V", sig := { parameters := [], returnType := none }, accessFlags := 1, code := none }
/-- java/lang/Object -/
def k0 : Class := { plain "java/lang/Object" none with
  accessFlags := 33
  interfaces := #[]
  cf := some (fileOf pool0 8 #[] #[{ accessFlags := 1, nameIndex := 5, descriptorIndex := 6, attributes := #[] }] 33 0 #[] #[])
  fields := #[]
  methods := #[k0m0]
  instanceTypes := #[]
  staticTypes := #[]
  resolved := Array.replicate 124 none
  statics := none }

def pool1 : Array CpInfo := pool [(2, .class_ 4), (1, u "java/lang/Object"), (0, u "<init>"), (0, u "()V"), (0, .methodref 8 9), (0, .class_ 10), (0, .nameAndType 11 12), (0, u "com/example/strict_launch/strictlaunch/Uids"), (0, u "isApplicationAppId"), (0, u "(I)Z"), (0, .methodref 14 15), (0, .class_ 16), (0, .nameAndType 17 12), (0, u "com/example/strict_launch/strictlaunch/UidsIsApplicationAppIdPinLaw"), (0, u "reference"), (3, u "law"), (0, u "(II)Z")] 2

def k1m0 : Method := { name := "<init>", desc := "()V", sig := { parameters := [], returnType := none }, accessFlags := 2, code := none }
def k1c1 : Code := { maxStack := 2, maxLocals := 1, code := method_2_code, exceptionTable := #[], attributes := #[] }
def k1m1 : Method := { name := "reference", desc := "(I)Z", sig := { parameters := [.int], returnType := some .boolean }, accessFlags := 10, code := some k1c1 }
def k1c2 : Code := { maxStack := 3, maxLocals := 6, code := code, exceptionTable := #[], attributes := #[] }
def k1m2 : Method := { name := "law", desc := "(II)Z", sig := { parameters := [.int, .int], returnType := some .boolean }, accessFlags := 9, code := some k1c2 }
/-- com/example/strict_launch/strictlaunch/UidsIsApplicationAppIdPinLaw -/
def k1 : Class := { plain "com/example/strict_launch/strictlaunch/UidsIsApplicationAppIdPinLaw" (some 0) with
  accessFlags := 49
  interfaces := #[]
  cf := some (fileOf pool1 14 #[] #[{ accessFlags := 2, nameIndex := 5, descriptorIndex := 6, attributes := #[] }, { accessFlags := 10, nameIndex := 17, descriptorIndex := 12, attributes := #[] }, { accessFlags := 9, nameIndex := 21, descriptorIndex := 22, attributes := #[] }] 49 2 #[] #[])
  fields := #[]
  methods := #[k1m0, k1m1, k1m2]
  instanceTypes := #[]
  staticTypes := #[]
  resolved := Array.replicate 25 none
  statics := none }

def pool2 : Array CpInfo := pool [(1, .class_ 2), (0, u "com/example/strict_launch/strictlaunch/Uids"), (3, .class_ 8), (1, u "java/lang/Object"), (0, u "<init>"), (0, u "()V"), (26, u "isApplicationAppId"), (0, u "(I)Z"), (8, u "ROOT_UID"), (0, u "I"), (2, u "SYSTEM_UID"), (1, u "SHELL_UID"), (1, u "PER_USER_RANGE"), (0, u "FIRST_APPLICATION_UID"), (1, u "LAST_APPLICATION_UID"), (1, u "PLATFORM_APP_IDS"), (0, u "Ljava/lang/String;"), (2, u "LAST_USER_ID")] 35

def k2m0 : Method := { name := "<init>", desc := "()V", sig := { parameters := [], returnType := none }, accessFlags := 2, code := none }
def k2c1 : Code := { maxStack := 2, maxLocals := 1, code := prog_11_method_6_code, exceptionTable := #[], attributes := #[] }
def k2m1 : Method := { name := "isApplicationAppId", desc := "(I)Z", sig := { parameters := [.int], returnType := some .boolean }, accessFlags := 9, code := some k2c1 }
/-- com/example/strict_launch/strictlaunch/Uids -/
def k2 : Class := { plain "com/example/strict_launch/strictlaunch/Uids" (some 0) with
  accessFlags := 33
  interfaces := #[]
  cf := some (fileOf pool2 1 #[] #[{ accessFlags := 2, nameIndex := 9, descriptorIndex := 10, attributes := #[] }, { accessFlags := 9, nameIndex := 37, descriptorIndex := 38, attributes := #[] }] 33 6 #[] #[{ accessFlags := 25, nameIndex := 47, descriptorIndex := 48, attributes := #[] }, { accessFlags := 25, nameIndex := 51, descriptorIndex := 48, attributes := #[] }, { accessFlags := 25, nameIndex := 53, descriptorIndex := 48, attributes := #[] }, { accessFlags := 26, nameIndex := 55, descriptorIndex := 48, attributes := #[] }, { accessFlags := 26, nameIndex := 56, descriptorIndex := 48, attributes := #[] }, { accessFlags := 26, nameIndex := 58, descriptorIndex := 48, attributes := #[] }, { accessFlags := 25, nameIndex := 60, descriptorIndex := 61, attributes := #[] }, { accessFlags := 25, nameIndex := 64, descriptorIndex := 48, attributes := #[] }])
  fields := #[{ name := "ROOT_UID", type := .int, accessFlags := 25, slot := 0, constantValue := 0 }, { name := "SYSTEM_UID", type := .int, accessFlags := 25, slot := 1, constantValue := 0 }, { name := "SHELL_UID", type := .int, accessFlags := 25, slot := 2, constantValue := 0 }, { name := "PER_USER_RANGE", type := .int, accessFlags := 26, slot := 3, constantValue := 0 }, { name := "FIRST_APPLICATION_UID", type := .int, accessFlags := 26, slot := 4, constantValue := 0 }, { name := "LAST_APPLICATION_UID", type := .int, accessFlags := 26, slot := 5, constantValue := 0 }, { name := "PLATFORM_APP_IDS", type := (.object "java/lang/String"), accessFlags := 25, slot := 6, constantValue := 0 }, { name := "LAST_USER_ID", type := .int, accessFlags := 25, slot := 7, constantValue := 0 }]
  methods := #[k2m0, k2m1]
  instanceTypes := #[]
  staticTypes := #[.int, .int, .int, .int, .int, .int, (.object "java/lang/String"), .int]
  resolved := Array.replicate 100 none
  statics := none }

def pool3 : Array CpInfo := pool [(1, u "java/lang/Cloneable"), (0, .class_ 1), (0, u "java/lang/Object"), (0, .class_ 3)] 3

/-- java/lang/Cloneable -/
def k3 : Class := { plain "java/lang/Cloneable" (some 0) with
  accessFlags := 1537
  interfaces := #[]
  cf := some (fileOf pool3 2 #[] #[] 1537 4 #[] #[])
  fields := #[]
  methods := #[]
  instanceTypes := #[]
  staticTypes := #[]
  resolved := Array.replicate 8 none
  statics := none }

def pool4 : Array CpInfo := pool [(1, u "java/io/Serializable"), (0, .class_ 1), (0, u "java/lang/Object"), (0, .class_ 3)] 3

/-- java/io/Serializable -/
def k4 : Class := { plain "java/io/Serializable" (some 0) with
  accessFlags := 1537
  interfaces := #[]
  cf := some (fileOf pool4 2 #[] #[] 1537 4 #[] #[])
  fields := #[]
  methods := #[]
  instanceTypes := #[]
  staticTypes := #[]
  resolved := Array.replicate 8 none
  statics := none }

/-- the primitive byte -/
def k5 : Class := { plain "byte" none with kind := .primitive 'B', accessFlags := 0x411 }
/-- [B -/
def k6 : Class := { plain "[B" (some 0) with kind := .array 5 .byte, interfaces := #[3, 4], accessFlags := 1041 }

def heap : Heap := #[]
def classes : Array Class := #[k0, k1, k2, k3, k4, k5, k6]
def interned : List (Array UInt16 × Addr) := []
def slotsUsed : Nat := 0
def theMethod : MethodId := ⟨1, 2⟩
def args0 : Array Value := #[.int 5, .int 300]
def aboutOver (below : List Frame) : State where
  vm := { classes := classes, interned := interned.toArray }
  heap := heap
  slotsUsed := slotsUsed
  threads := #[{ frames := .invoking theMethod args0 :: below }]
def below0 : List Frame := [.native { method := ⟨0, 0⟩, args := #[] }]
def about1 : State := aboutOver below0
def p0 : Program := .bare "" "" ""
def e0 : Env := launch0.env 0 0 0
theorem w_frames : about1.frames = Frame.invoking theMethod args0 :: below0 := rfl
set_option maxRecDepth 65536 in
theorem w_args : argsFit about1.vm theMethod args0 = true := by decide +kernel
set_option maxRecDepth 65536 in
theorem w_heap : heapFits about1 = true := by decide +kernel
set_option maxRecDepth 65536 in
theorem w_runnable : about1.curStatus? = some .runnable := by decide +kernel
set_option maxRecDepth 65536 in
theorem w_alone : about1.alone = true := by decide +kernel
set_option maxRecDepth 65536 in
theorem w_named : about1.methodNamed? x = some theMethod := by decide +kernel
set_option maxRecDepth 65536 in
theorem w_hears : about1.hears theMethod below0 = true := by decide +kernel
set_option maxRecDepth 65536 in
theorem w_ripe : about1.ripe theMethod args0 below0 = true := by decide +kernel
theorem w_running : about1.status = .running := rfl
set_option maxRecDepth 65536 in
theorem w_room : about1.hasRoom e0.platform room_1 = true :=
  launch0.hasRoom_least _ room_1 (by decide +kernel) (by decide +kernel) (by decide +kernel) (by decide +kernel) (by decide +kernel) (by decide +kernel)
theorem allAtoms_all (ts : List Jvm.Cond) (a : Array Jvm.Value) (st : Jvm.State) : (allAtoms ts).before a st = ts.all (fun c => c.before a st) := by
  induction ts with
  | nil => rfl
  | cons c t ih =>
    show (Jvm.Cond.and c (allAtoms t)).before a st = _
    rw [Jvm.Cond.before_and, ih, List.all_cons]
def words1 : List Jvm.Cond := Jvm.Cond.code x code maxLocals ret :: tables_1
/-- a 'code' word, met by the world's own term for the bytes: nothing is compared byte by byte -/
theorem code_word {y : MethodName} {bytes : ByteArray} {mx : Nat} {rt : Option FieldType} {a : Array Value} {s : State} {m : MethodId} {meth : Method} {c : Code} (h1 : s.methodNamed? y = some m) (h2 : s.vm.method? m = some meth) (h3 : meth.code = some c) (h4 : c.code = bytes)
    (h5 : (c.maxLocals == mx && c.exceptionTable.isEmpty && decide (c.maxStack ≤ mostOperands) && decide (meth.sig.returnType = rt) && !meth.locks && decide (parseMethodDescriptor y.desc = some meth.sig)) = true) : (Jvm.Cond.code y bytes mx rt).before a s = true := by
  simp only [Bool.and_eq_true, beq_iff_eq, Bool.not_eq_true', decide_eq_true_eq] at h5
  obtain ⟨⟨⟨⟨⟨g1, g2⟩, g3⟩, g4⟩, g5⟩, g6⟩ := h5
  simp [Cond.before, Cond.holds, Cond.value, h1, h2, h3, h4, g1, g2, g3, g4, g5, g6]
def isCode : Jvm.Cond → Bool
  | .code _ _ _ _ => true
  | _ => false
theorem all_split {L : List Jvm.Cond} {P : Jvm.Cond → Bool} (h1 : L.all (fun c => isCode c || P c) = true) (h2 : ∀ c ∈ L.filter isCode, P c = true) : L.all P = true := by
  refine List.all_eq_true.mpr fun c hc => ?_
  have h := List.all_eq_true.mp h1 c hc
  rcases Bool.eq_false_or_eq_true (isCode c) with hi | hi
  · exact h2 c (List.mem_filter.mpr ⟨hc, hi⟩)
  · simpa [hi] using h
set_option maxRecDepth 65536 in
theorem w_c0 : (Jvm.Cond.code x code maxLocals ret).before args0 about1 = true := code_word (m := ⟨1, 2⟩) (meth := k1m2) (c := k1c2) (by decide +kernel) rfl rfl rfl (by decide +kernel)
set_option maxRecDepth 65536 in
theorem w_c1 : (Jvm.Cond.code ({ cls := "com/example/strict_launch/strictlaunch/Uids", name := "isApplicationAppId", desc := "(I)Z" } : Jvm.MethodName) prog_11_method_6_code (1 : Nat) (Option.some Jvm.ClassFile.FieldType.boolean)).before args0 about1 = true := code_word (m := ⟨2, 1⟩) (meth := k2m1) (c := k2c1) (by decide +kernel) rfl rfl rfl (by decide +kernel)
set_option maxRecDepth 65536 in
theorem w_c2 : (Jvm.Cond.code ({ cls := "com/example/strict_launch/strictlaunch/UidsIsApplicationAppIdPinLaw", name := "reference", desc := "(I)Z" } : Jvm.MethodName) method_2_code (1 : Nat) (Option.some Jvm.ClassFile.FieldType.boolean)).before args0 about1 = true := code_word (m := ⟨1, 1⟩) (meth := k1m1) (c := k1c1) (by decide +kernel) rfl rfl rfl (by decide +kernel)
def codes1 : List Jvm.Cond := [Jvm.Cond.code x code maxLocals ret, Jvm.Cond.code ({ cls := "com/example/strict_launch/strictlaunch/Uids", name := "isApplicationAppId", desc := "(I)Z" } : Jvm.MethodName) prog_11_method_6_code (1 : Nat) (Option.some Jvm.ClassFile.FieldType.boolean), Jvm.Cond.code ({ cls := "com/example/strict_launch/strictlaunch/UidsIsApplicationAppIdPinLaw", name := "reference", desc := "(I)Z" } : Jvm.MethodName) method_2_code (1 : Nat) (Option.some Jvm.ClassFile.FieldType.boolean)]
set_option maxRecDepth 65536 in
theorem codes_eq : words1.filter isCode = codes1 := rfl
theorem w_codes : ∀ c ∈ words1.filter isCode, c.before args0 about1 = true := by
  rw [codes_eq]
  intro c hc
  simp only [codes1, List.mem_cons, List.not_mem_nil, or_false] at hc
  rcases hc with rfl | rfl | rfl
  · exact w_c0
  · exact w_c1
  · exact w_c2
set_option maxRecDepth 65536 in
theorem w_t1 : words1.all (fun c => isCode c || c.before args0 about1) = true := by decide +kernel
theorem w_tables : (allAtoms (Jvm.Cond.code x code maxLocals ret :: tables_1)).before args0 about1 = true := by
  rw [allAtoms_all]
  show words1.all (fun c => c.before args0 about1) = true
  refine all_split ?_ w_codes
  rw [w_t1]
set_option maxRecDepth 65536 in
theorem w_case : (Jvm.Cond.and given_1 narrow_1).before args0 about1 = true := by decide +kernel
theorem w_applies : (headSpec (Jvm.Cond.code x code maxLocals ret :: tables_1) room_1).applies x e0.platform about1 = true :=
  (Spec.applies_iff w_frames).mpr ⟨w_running, w_runnable, w_alone, w_named, w_hears, w_ripe, w_room, w_tables⟩
theorem atStart : AtStart classFile x code maxLocals ret World_1 tables_1 room_1 Calls_1 rest_1 Pre_1 launch0 p0 e0 about1 theMethod args0 below0 :=
  ⟨lists_1, trivial, launch0.admits_env _ _ _, launch0.least_env, fairChoices_fair.cas, fairChoices_fair.clock, w_frames, w_args, w_heap, w_applies, trivial, trivial, w_case⟩
end start1
theorem witness_1 : WitnessClaimed_1 := ⟨start1.p0, start1.e0, start1.about1, start1.theMethod, start1.args0, start1.below0, start1.atStart⟩
end Jvm.Pilot.@@N@@
