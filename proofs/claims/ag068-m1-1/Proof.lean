import JvmDerived
import JvmDerived.Pilot.@@N@@Statement
import JvmDerived.Pilot.@@N@@Code
set_option linter.unusedVariables false
set_option linter.unusedSimpArgs false
namespace Jvm.Pilot.@@N@@
open Jvm Jvm.ClassFile Sem Op Lib Jvm.Free Jvm.Stand Jvm.LawKit Jvm.RoadKit Bundle Jvm.Pilot.@@N@@.Jvm.D
abbrev own_Go (p : Program) (e : Env) (below : List Frame) (A B : State) : Prop := ∀ t, Steps p.tables e below A t → Steps p.tables e below B t

theorem own_pn0 : plainName "java/lang/Record" = true := by first | (simp [plainName, overriddenIn]; done) | decide +kernel
theorem own_ef2_R (m : MethodId) (x0 : Addr) : entryFrame m #[(.ref x0)] 1 = mkF m 0 #[.val (.ref x0)] [] := by first | (simp [entryFrame, mkF, argsToLocals, Value.category]; done) | rfl
theorem d2_0 : decode jdk_30_method_1_code 0 = .ok (.aload_n 0, 1) := by decide +kernel
theorem d2_1 : decode jdk_30_method_1_code 1 = .ok (.invokespecial 1, 3) := by decide +kernel
theorem d2_4 : decode jdk_30_method_1_code 4 = .ok (.return_, 1) := by decide +kernel
theorem own_pn1 : plainName "com/example/pactum/pactum/replay/Checkpoints$Plan" = true := by first | (simp [plainName, overriddenIn]; done) | decide +kernel
theorem own_ef1_RJJJJ (m : MethodId) (x0 : Addr) (x1 : Int64) (x2 : Int64) (x3 : Int64) (x4 : Int64) : entryFrame m #[(.ref x0), (.long x1), (.long x2), (.long x3), (.long x4)] 9 = mkF m 0 #[.val (.ref x0), .val (.long x1), .second, .val (.long x2), .second, .val (.long x3), .second, .val (.long x4), .second] [] := by first | (simp [entryFrame, mkF, argsToLocals, Value.category]; done) | rfl
theorem d1_0 : decode prog_142_method_1_code 0 = .ok (.aload_n 0, 1) := by decide +kernel
theorem d1_1 : decode prog_142_method_1_code 1 = .ok (.invokespecial 1, 3) := by decide +kernel
theorem own_pd0 : parseMethodDescriptor "()V" = some ⟨[], none⟩ := by decide +kernel
theorem d1_4 : decode prog_142_method_1_code 4 = .ok (.aload_n 0, 1) := by decide +kernel
theorem d1_5 : decode prog_142_method_1_code 5 = .ok (.lload_n 1, 1) := by decide +kernel
theorem d1_6 : decode prog_142_method_1_code 6 = .ok (.putfield 7, 3) := by decide +kernel
theorem d1_9 : decode prog_142_method_1_code 9 = .ok (.aload_n 0, 1) := by decide +kernel
theorem d1_10 : decode prog_142_method_1_code 10 = .ok (.lload_n 3, 1) := by decide +kernel
theorem d1_11 : decode prog_142_method_1_code 11 = .ok (.putfield 13, 3) := by decide +kernel
theorem d1_14 : decode prog_142_method_1_code 14 = .ok (.aload_n 0, 1) := by decide +kernel
theorem d1_15 : decode prog_142_method_1_code 15 = .ok (.lload 5, 2) := by decide +kernel
theorem d1_17 : decode prog_142_method_1_code 17 = .ok (.putfield 16, 3) := by decide +kernel
theorem d1_20 : decode prog_142_method_1_code 20 = .ok (.aload_n 0, 1) := by decide +kernel
theorem d1_21 : decode prog_142_method_1_code 21 = .ok (.lload 7, 2) := by decide +kernel
theorem d1_23 : decode prog_142_method_1_code 23 = .ok (.putfield 19, 3) := by decide +kernel
theorem d1_26 : decode prog_142_method_1_code 26 = .ok (.return_, 1) := by decide +kernel
theorem own_ef4_RJ (m : MethodId) (x0 : Addr) (x1 : Int64) : entryFrame m #[(.ref x0), (.long x1)] 3 = mkF m 0 #[.val (.ref x0), .val (.long x1), .second] [] := by first | (simp [entryFrame, mkF, argsToLocals, Value.category]; done) | rfl
theorem d4_0 : decode prog_142_method_2_code 0 = .ok (.aload_n 0, 1) := by decide +kernel
theorem d4_1 : decode prog_142_method_2_code 1 = .ok (.getfield 7, 3) := by decide +kernel
theorem d4_4 : decode prog_142_method_2_code 4 = .ok (.lload_n 1, 1) := by decide +kernel
theorem d4_5 : decode prog_142_method_2_code 5 = .ok (.aload_n 0, 1) := by decide +kernel
theorem d4_6 : decode prog_142_method_2_code 6 = .ok (.getfield 16, 3) := by decide +kernel
theorem d4_9 : decode prog_142_method_2_code 9 = .ok (.lmul, 1) := by decide +kernel
theorem d4_10 : decode prog_142_method_2_code 10 = .ok (.lsub, 1) := by decide +kernel
theorem d4_11 : decode prog_142_method_2_code 11 = .ok (.aload_n 0, 1) := by decide +kernel
theorem d4_12 : decode prog_142_method_2_code 12 = .ok (.getfield 13, 3) := by decide +kernel
theorem d4_15 : decode prog_142_method_2_code 15 = .ok (.lload_n 1, 1) := by decide +kernel
theorem d4_16 : decode prog_142_method_2_code 16 = .ok (.lsub, 1) := by decide +kernel
theorem d4_17 : decode prog_142_method_2_code 17 = .ok (.aload_n 0, 1) := by decide +kernel
theorem d4_18 : decode prog_142_method_2_code 18 = .ok (.getfield 19, 3) := by decide +kernel
theorem d4_21 : decode prog_142_method_2_code 21 = .ok (.lmul, 1) := by decide +kernel
theorem d4_22 : decode prog_142_method_2_code 22 = .ok (.ladd, 1) := by decide +kernel
theorem d4_23 : decode prog_142_method_2_code 23 = .ok (.lreturn, 1) := by decide +kernel
theorem own_pn2 : plainName "com/example/pactum/pactum/replay/PlanLengthPinLaw" = true := by first | (simp [plainName, overriddenIn]; done) | decide +kernel
theorem own_ef0_JJJJJJ (m : MethodId) (x0 : Int64) (x1 : Int64) (x2 : Int64) (x3 : Int64) (x4 : Int64) (x5 : Int64) : entryFrame m #[(.long x0), (.long x1), (.long x2), (.long x3), (.long x4), (.long x5)] maxLocals = mkF m 0 #[.val (.long x0), .second, .val (.long x1), .second, .val (.long x2), .second, .val (.long x3), .second, .val (.long x4), .second, .val (.long x5), .second, .unset, .unset, .unset, .unset] [] := by first | (simp [entryFrame, mkF, argsToLocals, Value.category, maxLocals]; done) | rfl
theorem own_pd1 : parseMethodDescriptor "(JJJJ)V" = some ⟨[.long, .long, .long, .long], none⟩ := by decide +kernel
theorem own_pd2 : parseMethodDescriptor "(J)J" = some ⟨[.long], some .long⟩ := by decide +kernel
def Q_rm_record (Z : State) (ao : Addr) (h0 : Heap) (n0 : Nat) (v : Option Value) (h : Heap) (L : List Loc) : Prop := v = none ∧ Fr n0 L ∧ h = h0
set_option maxRecDepth 65536 in
set_option maxHeartbeats 40000000 in
theorem rm_record (l : Launch) (Z : State) (a0 : Array Value) (hw : ∀ d ∈ tables_1, d.before a0 Z = true) (ws : List Jvm.Cond) (ao : Addr) (h0 : Heap) (n0 : Nat) (Z0 : n0 ≤ h0.size) :
    MetFree l (⟨"java/lang/Record", "<init>", "()V"⟩ : MethodName) (head1 (Jvm.Cond.code (⟨"java/lang/Record", "<init>", "()V"⟩ : MethodName) jdk_30_method_1_code 1 none :: ws) ({ frames := 1, cells := 0, slots := 0, locals := 12 } : Room)) (fun a U => a = #[(.ref ao)] ∧ Z.Warmed39 U.vm ∧ U.heap = h0) (fun _ _ _ _ _ => True) (fun _ U o U' => ∃ v L, o = .returned v ∧ Q_rm_record Z ao h0 n0 v U'.heap L ∧ FrameEnd U o U' L ({ frames := 1, cells := 0, slots := 0, locals := 12 } : Room).cells ({ frames := 1, cells := 0, slots := 0, locals := 12 } : Room).slots) := by
  refine MetFree.of_bodySF (plainFor_of_name own_pn0) hisR ?_
  intro p e s m args below meth c s₁ Bd hml0 hP hK
  obtain ⟨rfl, hZ, hh⟩ := hP
  have hx := Bd.exec
  have hby := Bd.bytes
  have hml : c.maxLocals = 1 := hml0
  have hown : s.vm.findClass "java/lang/Record" = some m.cls := findClass_of_methodNamed Bd.named
  have hnm := (name_of_methodNamed Bd.named Bd.method).1
  have X0 : Stand p l e ({ frames := 1, cells := 0, slots := 0, locals := 12 } : Room) s m #[(.ref ao)] below meth c s₁ [] 0 0 := Stand.of_body Bd
  have e0 : s₁.heap = h0 := by rw [← hh, Bd.state]; rfl
  have N0 := Fr.nil n0
  have st0 : own_Go p e below (s₁.setTop (mkF m 0 #[.val (.ref ao)] [])) (s₁.setTop (entryFrame m #[(.ref ao)] 1)) := fun t k => castTop (own_ef2_R m ao) k
  have st1 : own_Go p e below (s₁.setTop (mkF m 1 #[.val (.ref ao)] [(.ref ao)])) (s₁.setTop (entryFrame m #[(.ref ao)] 1)) := fun t kt => st0 t (by
    show Steps p.tables e below (s₁.setTop (mkF m 0 #[.val (.ref ao)] [])) _
    refine XS.aloadN X0.here hx rfl (hb hby d2_0) rfl rfl ?_
    show Steps p.tables e below (s₁.setTop (mkF m 1 #[.val (.ref ao)] [(.ref ao)])) _
    exact kt)
  obtain ⟨T2, X2, e2, ls2⟩ := initO X0 hx hZ hown (hw _ (List.mem_of_getElem? (i := 11) rfl)) (hw _ (List.mem_of_getElem? (i := 12) rfl)) (hw _ (List.mem_of_getElem? (i := 13) rfl)) e0 (g := (mkF m 1 #[.val (.ref ao)] [(.ref ao)])) rfl (by rw [hml]; rfl) rfl (hb hby d2_1) (by decide) (W := 0) (by show 2 * 0 + _ ≤ _; exact Nat.le_of_eq rfl) (by decide)
  have st3 : own_Go p e below (T2.setTop (mkF m 4 #[.val (.ref ao)] [])) (s₁.setTop (entryFrame m #[(.ref ao)] 1)) := fun t kt => st1 t (ls2 t kt)
  obtain ⟨fs, hr, hrun, hended, hW, hsame⟩ := X2.leave (v := none) (fun _ => rfl)
  refine ⟨_, _, st3 _ ?_, hrun, hended, _, _, rfl, ?_, ⟨_, rfl⟩, hW, hsame.mono (by decide) (by decide)⟩
  · exact X2.returnOut hx Bd.returns (hb hby d2_4) hr
  · show Q_rm_record Z ao h0 n0 _ T2.heap _
    rw [e2]
    exact ⟨rfl, N0, rfl⟩
def Q_rm_init (Z : State) (ao : Addr) (u1 : Int64) (u2 : Int64) (u3 : Int64) (u4 : Int64) (h0 : Heap) (n0 : Nat) (v : Option Value) (h : Heap) (L : List Loc) : Prop := v = none ∧ Fr n0 L ∧ Keep h0 h [ao] ∧ Fld Z h ao "com/example/pactum/pactum/replay/Checkpoints$Plan" "runTime" "J" (.long u1) ∧ Fld Z h ao "com/example/pactum/pactum/replay/Checkpoints$Plan" "checkpoints" "J" (.long u2) ∧ Fld Z h ao "com/example/pactum/pactum/replay/Checkpoints$Plan" "part" "J" (.long u3) ∧ Fld Z h ao "com/example/pactum/pactum/replay/Checkpoints$Plan" "cost" "J" (.long u4)
set_option maxRecDepth 65536 in
set_option maxHeartbeats 40000000 in
theorem rm_init (l : Launch) (Z : State) (a0 : Array Value) (hw : ∀ d ∈ tables_1, d.before a0 Z = true) (ws : List Jvm.Cond) (ao : Addr) (u1 : Int64) (u2 : Int64) (u3 : Int64) (u4 : Int64) (h0 : Heap) (n0 : Nat) (Z0 : n0 ≤ h0.size) (F_runTime_ao : Fld Z h0 ao "com/example/pactum/pactum/replay/Checkpoints$Plan" "runTime" "J" (.long (0 : Int64))) (F_checkpoints_ao : Fld Z h0 ao "com/example/pactum/pactum/replay/Checkpoints$Plan" "checkpoints" "J" (.long (0 : Int64))) (F_part_ao : Fld Z h0 ao "com/example/pactum/pactum/replay/Checkpoints$Plan" "part" "J" (.long (0 : Int64))) (F_cost_ao : Fld Z h0 ao "com/example/pactum/pactum/replay/Checkpoints$Plan" "cost" "J" (.long (0 : Int64))) (E_ao : Exa Z h0 ao "com/example/pactum/pactum/replay/Checkpoints$Plan") (g_ao : n0 ≤ ao) :
    MetFree l (⟨"com/example/pactum/pactum/replay/Checkpoints$Plan", "<init>", "(JJJJ)V"⟩ : MethodName) (head1 (Jvm.Cond.code (⟨"com/example/pactum/pactum/replay/Checkpoints$Plan", "<init>", "(JJJJ)V"⟩ : MethodName) prog_142_method_1_code 9 none :: ws) ({ frames := 2, cells := 0, slots := 0, locals := 24 } : Room)) (fun a U => a = #[(.ref ao), (.long u1), (.long u2), (.long u3), (.long u4)] ∧ Z.Warmed39 U.vm ∧ U.heap = h0) (fun _ _ _ _ _ => True) (fun _ U o U' => ∃ v L, o = .returned v ∧ Q_rm_init Z ao u1 u2 u3 u4 h0 n0 v U'.heap L ∧ FrameEnd U o U' L ({ frames := 2, cells := 0, slots := 0, locals := 24 } : Room).cells ({ frames := 2, cells := 0, slots := 0, locals := 24 } : Room).slots) := by
  refine MetFree.of_bodySF (plainFor_of_name own_pn1) hisR ?_
  intro p e s m args below meth c s₁ Bd hml0 hP hK
  obtain ⟨rfl, hZ, hh⟩ := hP
  have hx := Bd.exec
  have hby := Bd.bytes
  have hml : c.maxLocals = 9 := hml0
  have hown : s.vm.findClass "com/example/pactum/pactum/replay/Checkpoints$Plan" = some m.cls := findClass_of_methodNamed Bd.named
  have hnm := (name_of_methodNamed Bd.named Bd.method).1
  have X0 : Stand p l e ({ frames := 2, cells := 0, slots := 0, locals := 24 } : Room) s m #[(.ref ao), (.long u1), (.long u2), (.long u3), (.long u4)] below meth c s₁ [] 0 0 := Stand.of_body Bd
  have e0 : s₁.heap = h0 := by rw [← hh, Bd.state]; rfl
  have N0 := Fr.nil n0
  have st0 : own_Go p e below (s₁.setTop (mkF m 0 #[.val (.ref ao), .val (.long u1), .second, .val (.long u2), .second, .val (.long u3), .second, .val (.long u4), .second] [])) (s₁.setTop (entryFrame m #[(.ref ao), (.long u1), (.long u2), (.long u3), (.long u4)] 9)) := fun t k => castTop (own_ef1_RJJJJ m ao u1 u2 u3 u4) k
  have k0 : Keep h0 h0 [ao] := Keep.refl _ _
  have st1 : own_Go p e below (s₁.setTop (mkF m 1 #[.val (.ref ao), .val (.long u1), .second, .val (.long u2), .second, .val (.long u3), .second, .val (.long u4), .second] [(.ref ao)])) (s₁.setTop (entryFrame m #[(.ref ao), (.long u1), (.long u2), (.long u3), (.long u4)] 9)) := fun t kt => st0 t (by
    show Steps p.tables e below (s₁.setTop (mkF m 0 #[.val (.ref ao), .val (.long u1), .second, .val (.long u2), .second, .val (.long u3), .second, .val (.long u4), .second] [])) _
    refine XS.aloadN X0.here hx rfl (hb hby d1_0) rfl rfl ?_
    show Steps p.tables e below (s₁.setTop (mkF m 1 #[.val (.ref ao), .val (.long u1), .second, .val (.long u2), .second, .val (.long u3), .second, .val (.long u4), .second] [(.ref ao)])) _
    exact kt)
  obtain ⟨_, _, ⟨T2, L2, k2, n2⟩, -, X2, ⟨Lc2, hQ2, l2, y2, z2⟩, ls2⟩ := X0.specialBack hx (y := (⟨"java/lang/Record", "<init>", "()V"⟩ : MethodName)) rfl hown (mvT hZ (hw _ (List.mem_of_getElem? (i := 6) rfl))) (mvT hZ (hw _ (List.mem_of_getElem? (i := 7) rfl))) (mvT hZ (hw _ (List.mem_of_getElem? (i := 10) rfl))) (by decide) (backOf (W := 0) (rm_record l Z a0 hw [] ao h0 n0 Z0) hZ (hw _ (List.mem_of_getElem? (i := 10) rfl)) (hw _ (List.mem_of_getElem? (i := 9) rfl)) (by decide) (by decide)) (g := (mkF m 1 #[.val (.ref ao), .val (.long u1), .second, .val (.long u2), .second, .val (.long u3), .second, .val (.long u4), .second] [(.ref ao)])) rfl (by rw [hml]; rfl) (Steps.refl _) (a := ao) (argsL := []) (rest := []) (lenOf own_pd0 rfl) rfl (by show 2 * 0 + _ ≤ _; exact Nat.le_of_eq rfl) (hb hby d1_1) (fun _ _ => ⟨rfl, e0, (by decide : 0 + 0 ≤ _), (by decide : 0 + 0 ≤ _)⟩)
  dsimp only [Pt.U, Pt.locs, Pt.cells, Pt.slots] at X2 l2 y2 z2 ls2 hQ2
  subst l2 y2 z2
  obtain ⟨rfl, Nq2, eq2⟩ := hQ2
  have N2 := Fr.app N0 Nq2
  have st3 : own_Go p e below (T2.setTop (mkF m 4 #[.val (.ref ao), .val (.long u1), .second, .val (.long u2), .second, .val (.long u3), .second, .val (.long u4), .second] [])) (s₁.setTop (entryFrame m #[(.ref ao), (.long u1), (.long u2), (.long u3), (.long u4)] 9)) := fun t kt => st1 t (ls2.trans kt)
  have st4 : own_Go p e below (T2.setTop (mkF m 6 #[.val (.ref ao), .val (.long u1), .second, .val (.long u2), .second, .val (.long u3), .second, .val (.long u4), .second] [(.long u1), (.ref ao)])) (s₁.setTop (entryFrame m #[(.ref ao), (.long u1), (.long u2), (.long u3), (.long u4)] 9)) := fun t kt => st3 t (by
    show Steps p.tables e below (T2.setTop (mkF m 4 #[.val (.ref ao), .val (.long u1), .second, .val (.long u2), .second, .val (.long u3), .second, .val (.long u4), .second] [])) _
    refine XS.aloadN X2.here hx rfl (hb hby d1_4) rfl rfl ?_
    show Steps p.tables e below (T2.setTop (mkF m 5 #[.val (.ref ao), .val (.long u1), .second, .val (.long u2), .second, .val (.long u3), .second, .val (.long u4), .second] [(.ref ao)])) _
    refine XS.lloadN X2.here hx rfl (hb hby d1_5) rfl ?_
    show Steps p.tables e below (T2.setTop (mkF m 6 #[.val (.ref ao), .val (.long u1), .second, .val (.long u2), .second, .val (.long u3), .second, .val (.long u4), .second] [(.long u1), (.ref ao)])) _
    exact kt)
  obtain ⟨T5, h5, X5, e5, W5, ls5⟩ := putF X2 hx hZ hown (host := "") (Or.inl (hw _ (List.mem_of_getElem? (i := 14) rfl))) Via.refl eq2 F_runTime_ao E_ao (Or.inr ⟨(hw _ (List.mem_of_getElem? (i := 15) rfl)), rfl, hnm⟩) (hw _ (List.mem_of_getElem? (i := 1) rfl)) (ty := .long) (by decide) rfl rfl (g := (mkF m 6 #[.val (.ref ao), .val (.long u1), .second, .val (.long u2), .second, .val (.long u3), .second, .val (.long u4), .second] [(.long u1), (.ref ao)])) rfl rfl (hb hby d1_6)
  have N5 := Fr.snoc X5 N2 g_ao
  have f6 := F_runTime_ao.same W5
  have f7 := F_checkpoints_ao.other W5 (Or.inr (slot_ne (Or.inr (hw _ (List.mem_of_getElem? (i := 17) rfl))) (Or.inr (hw _ (List.mem_of_getElem? (i := 15) rfl))) (by decide) (t := .long) (t' := .long) (by decide) (by decide)))
  have f8 := F_part_ao.other W5 (Or.inr (slot_ne (Or.inr (hw _ (List.mem_of_getElem? (i := 19) rfl))) (Or.inr (hw _ (List.mem_of_getElem? (i := 15) rfl))) (by decide) (t := .long) (t' := .long) (by decide) (by decide)))
  have f9 := F_cost_ao.other W5 (Or.inr (slot_ne (Or.inr (hw _ (List.mem_of_getElem? (i := 21) rfl))) (Or.inr (hw _ (List.mem_of_getElem? (i := 15) rfl))) (by decide) (t := .long) (t' := .long) (by decide) (by decide)))
  have f10 := E_ao.wr W5
  have z11 := Nat.le_trans Z0 (Keep.of_wr W5).1
  have k12 := k0.wr W5 (Or.inl (List.mem_of_getElem? (i := 0) rfl))
  have st13 : own_Go p e below (T5.setTop (mkF m 9 #[.val (.ref ao), .val (.long u1), .second, .val (.long u2), .second, .val (.long u3), .second, .val (.long u4), .second] [])) (s₁.setTop (entryFrame m #[(.ref ao), (.long u1), (.long u2), (.long u3), (.long u4)] 9)) := fun t kt => st4 t (ls5 t kt)
  have st14 : own_Go p e below (T5.setTop (mkF m 11 #[.val (.ref ao), .val (.long u1), .second, .val (.long u2), .second, .val (.long u3), .second, .val (.long u4), .second] [(.long u2), (.ref ao)])) (s₁.setTop (entryFrame m #[(.ref ao), (.long u1), (.long u2), (.long u3), (.long u4)] 9)) := fun t kt => st13 t (by
    show Steps p.tables e below (T5.setTop (mkF m 9 #[.val (.ref ao), .val (.long u1), .second, .val (.long u2), .second, .val (.long u3), .second, .val (.long u4), .second] [])) _
    refine XS.aloadN X5.here hx rfl (hb hby d1_9) rfl rfl ?_
    show Steps p.tables e below (T5.setTop (mkF m 10 #[.val (.ref ao), .val (.long u1), .second, .val (.long u2), .second, .val (.long u3), .second, .val (.long u4), .second] [(.ref ao)])) _
    refine XS.lloadN X5.here hx rfl (hb hby d1_10) rfl ?_
    show Steps p.tables e below (T5.setTop (mkF m 11 #[.val (.ref ao), .val (.long u1), .second, .val (.long u2), .second, .val (.long u3), .second, .val (.long u4), .second] [(.long u2), (.ref ao)])) _
    exact kt)
  obtain ⟨T15, h15, X15, e15, W15, ls15⟩ := putF X5 hx hZ hown (host := "") (Or.inl (hw _ (List.mem_of_getElem? (i := 16) rfl))) Via.refl e5 f7 f10 (Or.inr ⟨(hw _ (List.mem_of_getElem? (i := 17) rfl)), rfl, hnm⟩) (hw _ (List.mem_of_getElem? (i := 1) rfl)) (ty := .long) (by decide) rfl rfl (g := (mkF m 11 #[.val (.ref ao), .val (.long u1), .second, .val (.long u2), .second, .val (.long u3), .second, .val (.long u4), .second] [(.long u2), (.ref ao)])) rfl rfl (hb hby d1_11)
  have N15 := Fr.snoc X15 N5 g_ao
  have f16 := f6.other W15 (Or.inr (slot_ne (Or.inr (hw _ (List.mem_of_getElem? (i := 15) rfl))) (Or.inr (hw _ (List.mem_of_getElem? (i := 17) rfl))) (by decide) (t := .long) (t' := .long) (by decide) (by decide)))
  have f17 := f7.same W15
  have f18 := f8.other W15 (Or.inr (slot_ne (Or.inr (hw _ (List.mem_of_getElem? (i := 19) rfl))) (Or.inr (hw _ (List.mem_of_getElem? (i := 17) rfl))) (by decide) (t := .long) (t' := .long) (by decide) (by decide)))
  have f19 := f9.other W15 (Or.inr (slot_ne (Or.inr (hw _ (List.mem_of_getElem? (i := 21) rfl))) (Or.inr (hw _ (List.mem_of_getElem? (i := 17) rfl))) (by decide) (t := .long) (t' := .long) (by decide) (by decide)))
  have f20 := f10.wr W15
  have z21 := Nat.le_trans z11 (Keep.of_wr W15).1
  have k22 := k12.wr W15 (Or.inl (List.mem_of_getElem? (i := 0) rfl))
  have st23 : own_Go p e below (T15.setTop (mkF m 14 #[.val (.ref ao), .val (.long u1), .second, .val (.long u2), .second, .val (.long u3), .second, .val (.long u4), .second] [])) (s₁.setTop (entryFrame m #[(.ref ao), (.long u1), (.long u2), (.long u3), (.long u4)] 9)) := fun t kt => st14 t (ls15 t kt)
  have st24 : own_Go p e below (T15.setTop (mkF m 17 #[.val (.ref ao), .val (.long u1), .second, .val (.long u2), .second, .val (.long u3), .second, .val (.long u4), .second] [(.long u3), (.ref ao)])) (s₁.setTop (entryFrame m #[(.ref ao), (.long u1), (.long u2), (.long u3), (.long u4)] 9)) := fun t kt => st23 t (by
    show Steps p.tables e below (T15.setTop (mkF m 14 #[.val (.ref ao), .val (.long u1), .second, .val (.long u2), .second, .val (.long u3), .second, .val (.long u4), .second] [])) _
    refine XS.aloadN X15.here hx rfl (hb hby d1_14) rfl rfl ?_
    show Steps p.tables e below (T15.setTop (mkF m 15 #[.val (.ref ao), .val (.long u1), .second, .val (.long u2), .second, .val (.long u3), .second, .val (.long u4), .second] [(.ref ao)])) _
    refine XS.lload X15.here hx rfl (hb hby d1_15) rfl ?_
    show Steps p.tables e below (T15.setTop (mkF m 17 #[.val (.ref ao), .val (.long u1), .second, .val (.long u2), .second, .val (.long u3), .second, .val (.long u4), .second] [(.long u3), (.ref ao)])) _
    exact kt)
  obtain ⟨T25, h25, X25, e25, W25, ls25⟩ := putF X15 hx hZ hown (host := "") (Or.inl (hw _ (List.mem_of_getElem? (i := 18) rfl))) Via.refl e15 f18 f20 (Or.inr ⟨(hw _ (List.mem_of_getElem? (i := 19) rfl)), rfl, hnm⟩) (hw _ (List.mem_of_getElem? (i := 1) rfl)) (ty := .long) (by decide) rfl rfl (g := (mkF m 17 #[.val (.ref ao), .val (.long u1), .second, .val (.long u2), .second, .val (.long u3), .second, .val (.long u4), .second] [(.long u3), (.ref ao)])) rfl rfl (hb hby d1_17)
  have N25 := Fr.snoc X25 N15 g_ao
  have f26 := f16.other W25 (Or.inr (slot_ne (Or.inr (hw _ (List.mem_of_getElem? (i := 15) rfl))) (Or.inr (hw _ (List.mem_of_getElem? (i := 19) rfl))) (by decide) (t := .long) (t' := .long) (by decide) (by decide)))
  have f27 := f17.other W25 (Or.inr (slot_ne (Or.inr (hw _ (List.mem_of_getElem? (i := 17) rfl))) (Or.inr (hw _ (List.mem_of_getElem? (i := 19) rfl))) (by decide) (t := .long) (t' := .long) (by decide) (by decide)))
  have f28 := f18.same W25
  have f29 := f19.other W25 (Or.inr (slot_ne (Or.inr (hw _ (List.mem_of_getElem? (i := 21) rfl))) (Or.inr (hw _ (List.mem_of_getElem? (i := 19) rfl))) (by decide) (t := .long) (t' := .long) (by decide) (by decide)))
  have f30 := f20.wr W25
  have z31 := Nat.le_trans z21 (Keep.of_wr W25).1
  have k32 := k22.wr W25 (Or.inl (List.mem_of_getElem? (i := 0) rfl))
  have st33 : own_Go p e below (T25.setTop (mkF m 20 #[.val (.ref ao), .val (.long u1), .second, .val (.long u2), .second, .val (.long u3), .second, .val (.long u4), .second] [])) (s₁.setTop (entryFrame m #[(.ref ao), (.long u1), (.long u2), (.long u3), (.long u4)] 9)) := fun t kt => st24 t (ls25 t kt)
  have st34 : own_Go p e below (T25.setTop (mkF m 23 #[.val (.ref ao), .val (.long u1), .second, .val (.long u2), .second, .val (.long u3), .second, .val (.long u4), .second] [(.long u4), (.ref ao)])) (s₁.setTop (entryFrame m #[(.ref ao), (.long u1), (.long u2), (.long u3), (.long u4)] 9)) := fun t kt => st33 t (by
    show Steps p.tables e below (T25.setTop (mkF m 20 #[.val (.ref ao), .val (.long u1), .second, .val (.long u2), .second, .val (.long u3), .second, .val (.long u4), .second] [])) _
    refine XS.aloadN X25.here hx rfl (hb hby d1_20) rfl rfl ?_
    show Steps p.tables e below (T25.setTop (mkF m 21 #[.val (.ref ao), .val (.long u1), .second, .val (.long u2), .second, .val (.long u3), .second, .val (.long u4), .second] [(.ref ao)])) _
    refine XS.lload X25.here hx rfl (hb hby d1_21) rfl ?_
    show Steps p.tables e below (T25.setTop (mkF m 23 #[.val (.ref ao), .val (.long u1), .second, .val (.long u2), .second, .val (.long u3), .second, .val (.long u4), .second] [(.long u4), (.ref ao)])) _
    exact kt)
  obtain ⟨T35, h35, X35, e35, W35, ls35⟩ := putF X25 hx hZ hown (host := "") (Or.inl (hw _ (List.mem_of_getElem? (i := 20) rfl))) Via.refl e25 f29 f30 (Or.inr ⟨(hw _ (List.mem_of_getElem? (i := 21) rfl)), rfl, hnm⟩) (hw _ (List.mem_of_getElem? (i := 1) rfl)) (ty := .long) (by decide) rfl rfl (g := (mkF m 23 #[.val (.ref ao), .val (.long u1), .second, .val (.long u2), .second, .val (.long u3), .second, .val (.long u4), .second] [(.long u4), (.ref ao)])) rfl rfl (hb hby d1_23)
  have N35 := Fr.snoc X35 N25 g_ao
  have f36 := f26.other W35 (Or.inr (slot_ne (Or.inr (hw _ (List.mem_of_getElem? (i := 15) rfl))) (Or.inr (hw _ (List.mem_of_getElem? (i := 21) rfl))) (by decide) (t := .long) (t' := .long) (by decide) (by decide)))
  have f37 := f27.other W35 (Or.inr (slot_ne (Or.inr (hw _ (List.mem_of_getElem? (i := 17) rfl))) (Or.inr (hw _ (List.mem_of_getElem? (i := 21) rfl))) (by decide) (t := .long) (t' := .long) (by decide) (by decide)))
  have f38 := f28.other W35 (Or.inr (slot_ne (Or.inr (hw _ (List.mem_of_getElem? (i := 19) rfl))) (Or.inr (hw _ (List.mem_of_getElem? (i := 21) rfl))) (by decide) (t := .long) (t' := .long) (by decide) (by decide)))
  have f39 := f29.same W35
  have f40 := f30.wr W35
  have z41 := Nat.le_trans z31 (Keep.of_wr W35).1
  have k42 := k32.wr W35 (Or.inl (List.mem_of_getElem? (i := 0) rfl))
  have st43 : own_Go p e below (T35.setTop (mkF m 26 #[.val (.ref ao), .val (.long u1), .second, .val (.long u2), .second, .val (.long u3), .second, .val (.long u4), .second] [])) (s₁.setTop (entryFrame m #[(.ref ao), (.long u1), (.long u2), (.long u3), (.long u4)] 9)) := fun t kt => st34 t (ls35 t kt)
  obtain ⟨fs, hr, hrun, hended, hW, hsame⟩ := X35.leave (v := none) (fun _ => rfl)
  refine ⟨_, _, st43 _ ?_, hrun, hended, _, _, rfl, ?_, ⟨_, rfl⟩, hW, hsame.mono (by decide) (by decide)⟩
  · exact X35.returnOut hx Bd.returns (hb hby d1_26) hr
  · show Q_rm_init Z ao u1 u2 u3 u4 h0 n0 _ T35.heap _
    rw [e35]
    exact ⟨rfl, N35, k42, f36, f37, f38, f39⟩
def Q_rm_len (Z : State) (ao : Addr) (u : Int64) (u1 : Int64) (u2 : Int64) (u3 : Int64) (u4 : Int64) (h0 : Heap) (n0 : Nat) (v : Option Value) (h : Heap) (L : List Loc) : Prop := v = some (.long ((u1 - (u * u3)) + ((u2 - u) * u4))) ∧ Fr n0 L ∧ h = h0
set_option maxRecDepth 65536 in
set_option maxHeartbeats 40000000 in
theorem rm_len (l : Launch) (Z : State) (a0 : Array Value) (hw : ∀ d ∈ tables_1, d.before a0 Z = true) (ws : List Jvm.Cond) (ao : Addr) (u : Int64) (u1 : Int64) (u2 : Int64) (u3 : Int64) (u4 : Int64) (h0 : Heap) (n0 : Nat) (Z0 : n0 ≤ h0.size) (F_runTime_ao : Fld Z h0 ao "com/example/pactum/pactum/replay/Checkpoints$Plan" "runTime" "J" (.long u1)) (F_checkpoints_ao : Fld Z h0 ao "com/example/pactum/pactum/replay/Checkpoints$Plan" "checkpoints" "J" (.long u2)) (F_part_ao : Fld Z h0 ao "com/example/pactum/pactum/replay/Checkpoints$Plan" "part" "J" (.long u3)) (F_cost_ao : Fld Z h0 ao "com/example/pactum/pactum/replay/Checkpoints$Plan" "cost" "J" (.long u4)) :
    MetFree l (⟨"com/example/pactum/pactum/replay/Checkpoints$Plan", "length", "(J)J"⟩ : MethodName) (head1 (Jvm.Cond.code (⟨"com/example/pactum/pactum/replay/Checkpoints$Plan", "length", "(J)J"⟩ : MethodName) prog_142_method_2_code 3 (some .long) :: ws) ({ frames := 0, cells := 0, slots := 0, locals := 0 } : Room)) (fun a U => a = #[(.ref ao), (.long u)] ∧ Z.Warmed39 U.vm ∧ U.heap = h0) (fun _ _ _ _ _ => True) (fun _ U o U' => ∃ v L, o = .returned v ∧ Q_rm_len Z ao u u1 u2 u3 u4 h0 n0 v U'.heap L ∧ FrameEnd U o U' L ({ frames := 0, cells := 0, slots := 0, locals := 0 } : Room).cells ({ frames := 0, cells := 0, slots := 0, locals := 0 } : Room).slots) := by
  refine MetFree.of_bodySF (plainFor_of_name own_pn1) hisR ?_
  intro p e s m args below meth c s₁ Bd hml0 hP hK
  obtain ⟨rfl, hZ, hh⟩ := hP
  have hx := Bd.exec
  have hby := Bd.bytes
  have hml : c.maxLocals = 3 := hml0
  have hown : s.vm.findClass "com/example/pactum/pactum/replay/Checkpoints$Plan" = some m.cls := findClass_of_methodNamed Bd.named
  have hnm := (name_of_methodNamed Bd.named Bd.method).1
  have X0 : Stand p l e ({ frames := 0, cells := 0, slots := 0, locals := 0 } : Room) s m #[(.ref ao), (.long u)] below meth c s₁ [] 0 0 := Stand.of_body Bd
  have e0 : s₁.heap = h0 := by rw [← hh, Bd.state]; rfl
  have N0 := Fr.nil n0
  have st0 : own_Go p e below (s₁.setTop (mkF m 0 #[.val (.ref ao), .val (.long u), .second] [])) (s₁.setTop (entryFrame m #[(.ref ao), (.long u)] 3)) := fun t k => castTop (own_ef4_RJ m ao u) k
  have st1 : own_Go p e below (s₁.setTop (mkF m 1 #[.val (.ref ao), .val (.long u), .second] [(.ref ao)])) (s₁.setTop (entryFrame m #[(.ref ao), (.long u)] 3)) := fun t kt => st0 t (by
    show Steps p.tables e below (s₁.setTop (mkF m 0 #[.val (.ref ao), .val (.long u), .second] [])) _
    refine XS.aloadN X0.here hx rfl (hb hby d4_0) rfl rfl ?_
    show Steps p.tables e below (s₁.setTop (mkF m 1 #[.val (.ref ao), .val (.long u), .second] [(.ref ao)])) _
    exact kt)
  obtain ⟨T2, X2, e2, ls2⟩ := getF X0 hx hZ hown (host := "") (Or.inl (hw _ (List.mem_of_getElem? (i := 14) rfl))) Via.refl e0 F_runTime_ao (g := (mkF m 1 #[.val (.ref ao), .val (.long u), .second] [(.ref ao)])) rfl rfl (hb hby d4_1)
  have st3 : own_Go p e below (T2.setTop (mkF m 4 #[.val (.ref ao), .val (.long u), .second] [(.long u1)])) (s₁.setTop (entryFrame m #[(.ref ao), (.long u)] 3)) := fun t kt => st1 t (ls2 t kt)
  have st4 : own_Go p e below (T2.setTop (mkF m 6 #[.val (.ref ao), .val (.long u), .second] [(.ref ao), (.long u), (.long u1)])) (s₁.setTop (entryFrame m #[(.ref ao), (.long u)] 3)) := fun t kt => st3 t (by
    show Steps p.tables e below (T2.setTop (mkF m 4 #[.val (.ref ao), .val (.long u), .second] [(.long u1)])) _
    refine XS.lloadN X2.here hx rfl (hb hby d4_4) rfl ?_
    show Steps p.tables e below (T2.setTop (mkF m 5 #[.val (.ref ao), .val (.long u), .second] [(.long u), (.long u1)])) _
    refine XS.aloadN X2.here hx rfl (hb hby d4_5) rfl rfl ?_
    show Steps p.tables e below (T2.setTop (mkF m 6 #[.val (.ref ao), .val (.long u), .second] [(.ref ao), (.long u), (.long u1)])) _
    exact kt)
  obtain ⟨T5, X5, e5, ls5⟩ := getF X2 hx hZ hown (host := "") (Or.inl (hw _ (List.mem_of_getElem? (i := 18) rfl))) Via.refl e2 F_part_ao (g := (mkF m 6 #[.val (.ref ao), .val (.long u), .second] [(.ref ao), (.long u), (.long u1)])) rfl rfl (hb hby d4_6)
  have st6 : own_Go p e below (T5.setTop (mkF m 9 #[.val (.ref ao), .val (.long u), .second] [(.long u3), (.long u), (.long u1)])) (s₁.setTop (entryFrame m #[(.ref ao), (.long u)] 3)) := fun t kt => st4 t (ls5 t kt)
  have st7 : own_Go p e below (T5.setTop (mkF m 12 #[.val (.ref ao), .val (.long u), .second] [(.ref ao), (.long (u1 - (u * u3)))])) (s₁.setTop (entryFrame m #[(.ref ao), (.long u)] 3)) := fun t kt => st6 t (by
    show Steps p.tables e below (T5.setTop (mkF m 9 #[.val (.ref ao), .val (.long u), .second] [(.long u3), (.long u), (.long u1)])) _
    refine XS.lmul X5.here hx rfl (hb hby d4_9) rfl ?_
    show Steps p.tables e below (T5.setTop (mkF m 10 #[.val (.ref ao), .val (.long u), .second] [(.long (u * u3)), (.long u1)])) _
    refine XS.lsub X5.here hx rfl (hb hby d4_10) rfl ?_
    show Steps p.tables e below (T5.setTop (mkF m 11 #[.val (.ref ao), .val (.long u), .second] [(.long (u1 - (u * u3)))])) _
    refine XS.aloadN X5.here hx rfl (hb hby d4_11) rfl rfl ?_
    show Steps p.tables e below (T5.setTop (mkF m 12 #[.val (.ref ao), .val (.long u), .second] [(.ref ao), (.long (u1 - (u * u3)))])) _
    exact kt)
  obtain ⟨T8, X8, e8, ls8⟩ := getF X5 hx hZ hown (host := "") (Or.inl (hw _ (List.mem_of_getElem? (i := 16) rfl))) Via.refl e5 F_checkpoints_ao (g := (mkF m 12 #[.val (.ref ao), .val (.long u), .second] [(.ref ao), (.long (u1 - (u * u3)))])) rfl rfl (hb hby d4_12)
  have st9 : own_Go p e below (T8.setTop (mkF m 15 #[.val (.ref ao), .val (.long u), .second] [(.long u2), (.long (u1 - (u * u3)))])) (s₁.setTop (entryFrame m #[(.ref ao), (.long u)] 3)) := fun t kt => st7 t (ls8 t kt)
  have st10 : own_Go p e below (T8.setTop (mkF m 18 #[.val (.ref ao), .val (.long u), .second] [(.ref ao), (.long (u2 - u)), (.long (u1 - (u * u3)))])) (s₁.setTop (entryFrame m #[(.ref ao), (.long u)] 3)) := fun t kt => st9 t (by
    show Steps p.tables e below (T8.setTop (mkF m 15 #[.val (.ref ao), .val (.long u), .second] [(.long u2), (.long (u1 - (u * u3)))])) _
    refine XS.lloadN X8.here hx rfl (hb hby d4_15) rfl ?_
    show Steps p.tables e below (T8.setTop (mkF m 16 #[.val (.ref ao), .val (.long u), .second] [(.long u), (.long u2), (.long (u1 - (u * u3)))])) _
    refine XS.lsub X8.here hx rfl (hb hby d4_16) rfl ?_
    show Steps p.tables e below (T8.setTop (mkF m 17 #[.val (.ref ao), .val (.long u), .second] [(.long (u2 - u)), (.long (u1 - (u * u3)))])) _
    refine XS.aloadN X8.here hx rfl (hb hby d4_17) rfl rfl ?_
    show Steps p.tables e below (T8.setTop (mkF m 18 #[.val (.ref ao), .val (.long u), .second] [(.ref ao), (.long (u2 - u)), (.long (u1 - (u * u3)))])) _
    exact kt)
  obtain ⟨T11, X11, e11, ls11⟩ := getF X8 hx hZ hown (host := "") (Or.inl (hw _ (List.mem_of_getElem? (i := 20) rfl))) Via.refl e8 F_cost_ao (g := (mkF m 18 #[.val (.ref ao), .val (.long u), .second] [(.ref ao), (.long (u2 - u)), (.long (u1 - (u * u3)))])) rfl rfl (hb hby d4_18)
  have st12 : own_Go p e below (T11.setTop (mkF m 21 #[.val (.ref ao), .val (.long u), .second] [(.long u4), (.long (u2 - u)), (.long (u1 - (u * u3)))])) (s₁.setTop (entryFrame m #[(.ref ao), (.long u)] 3)) := fun t kt => st10 t (ls11 t kt)
  have st13 : own_Go p e below (T11.setTop (mkF m 23 #[.val (.ref ao), .val (.long u), .second] [(.long ((u1 - (u * u3)) + ((u2 - u) * u4)))])) (s₁.setTop (entryFrame m #[(.ref ao), (.long u)] 3)) := fun t kt => st12 t (by
    show Steps p.tables e below (T11.setTop (mkF m 21 #[.val (.ref ao), .val (.long u), .second] [(.long u4), (.long (u2 - u)), (.long (u1 - (u * u3)))])) _
    refine XS.lmul X11.here hx rfl (hb hby d4_21) rfl ?_
    show Steps p.tables e below (T11.setTop (mkF m 22 #[.val (.ref ao), .val (.long u), .second] [(.long ((u2 - u) * u4)), (.long (u1 - (u * u3)))])) _
    refine XS.ladd X11.here hx rfl (hb hby d4_22) rfl ?_
    show Steps p.tables e below (T11.setTop (mkF m 23 #[.val (.ref ao), .val (.long u), .second] [(.long ((u1 - (u * u3)) + ((u2 - u) * u4)))])) _
    exact kt)
  obtain ⟨fs, hr, hrun, hended, hW, hsame⟩ := X11.leave (v := (some (.long ((u1 - (u * u3)) + ((u2 - u) * u4))))) (fun h => by rw [Bd.returns] at h; cases h)
  refine ⟨_, _, st13 _ ?_, hrun, hended, _, _, rfl, ?_, ⟨_, rfl⟩, hW, hsame.mono (by decide) (by decide)⟩
  · exact retOut X11 hx Bd.returns rfl (Or.inr (Or.inl ⟨rfl, rfl, _, rfl⟩)) (hb hby d4_23) hr
  · show Q_rm_len Z ao u u1 u2 u3 u4 h0 n0 _ T11.heap _
    rw [e11]
    exact ⟨rfl, N0, rfl⟩
def Q_rm_law (Z : State) (xr : Int64) (xc : Int64) (xp : Int64) (xk : Int64) (xw : Int64) (xs : Int64) (h0 : Heap) (n0 : Nat) (v : Option Value) (h : Heap) (L : List Loc) : Prop := v = some (.int 1) ∧ Fr n0 L
set_option maxRecDepth 65536 in
set_option maxHeartbeats 40000000 in
theorem rm_law (l : Launch) (Z : State) (a0 : Array Value) (hw : ∀ d ∈ tables_1, d.before a0 Z = true) (ws : List Jvm.Cond) (xr : Int64) (xc : Int64) (xp : Int64) (xk : Int64) (xw : Int64) (xs : Int64) (h0 : Heap) (n0 : Nat) (Z0 : n0 ≤ h0.size) :
    MetFree l x (head1 (Jvm.Cond.code x code maxLocals ret :: ws) room_1) (fun a U => a = #[(.long xr), (.long xc), (.long xp), (.long xk), (.long xw), (.long xs)] ∧ Z.Warmed39 U.vm ∧ U.heap = h0) (fun _ _ _ _ _ => True) (fun _ U o U' => ∃ v L, o = .returned v ∧ Q_rm_law Z xr xc xp xk xw xs h0 n0 v U'.heap L ∧ FrameEnd U o U' L room_1.cells room_1.slots) := by
  refine MetFree.of_bodySF (plainFor_of_name own_pn2) hisR ?_
  intro p e s m args below meth c s₁ Bd hml0 hP hK
  obtain ⟨rfl, hZ, hh⟩ := hP
  have hx := Bd.exec
  have hby := Bd.bytes
  have hml : c.maxLocals = 16 := hml0
  have hown : s.vm.findClass "com/example/pactum/pactum/replay/PlanLengthPinLaw" = some m.cls := findClass_of_methodNamed Bd.named
  have hnm := (name_of_methodNamed Bd.named Bd.method).1
  have X0 : Stand p l e room_1 s m #[(.long xr), (.long xc), (.long xp), (.long xk), (.long xw), (.long xs)] below meth c s₁ [] 0 0 := Stand.of_body Bd
  have e0 : s₁.heap = h0 := by rw [← hh, Bd.state]; rfl
  have N0 := Fr.nil n0
  have st0 : own_Go p e below (s₁.setTop (mkF m 0 #[.val (.long xr), .second, .val (.long xc), .second, .val (.long xp), .second, .val (.long xk), .second, .val (.long xw), .second, .val (.long xs), .second, .unset, .unset, .unset, .unset] [])) (s₁.setTop (entryFrame m #[(.long xr), (.long xc), (.long xp), (.long xk), (.long xw), (.long xs)] maxLocals)) := fun t k => castTop (own_ef0_JJJJJJ m xr xc xp xk xw xs) k
  obtain ⟨T1, h1, X1, e1, E1, A1, D1, -, ls1⟩ := newO X0 hx hZ hown (hw _ (List.mem_of_getElem? (i := 0) rfl)) (hw _ (List.mem_of_getElem? (i := 1) rfl)) (hw _ (List.mem_of_getElem? (i := 2) rfl)) e0 (g := (mkF m 0 #[.val (.long xr), .second, .val (.long xc), .second, .val (.long xp), .second, .val (.long xk), .second, .val (.long xw), .second, .val (.long xs), .second, .unset, .unset, .unset, .unset] [])) rfl (hb hby at_0) (by decide) (by decide)
  obtain ⟨b1, g1⟩ : ∃ z, z = h0.size := ⟨_, rfl⟩
  rw [← g1] at A1 D1 ls1
  have g_b1 : n0 ≤ b1 := Nat.le_trans Z0 (Nat.le_of_eq g1.symm)
  have z2 := Nat.le_trans Z0 E1.1
  have f3 : Fld Z h1 b1 "com/example/pactum/pactum/replay/Checkpoints$Plan" "runTime" "J" (.long (0 : Int64)) := D1 (Or.inr (hw _ (List.mem_of_getElem? (i := 15) rfl))) (ty := .long) (by decide)
  have f4 : Fld Z h1 b1 "com/example/pactum/pactum/replay/Checkpoints$Plan" "checkpoints" "J" (.long (0 : Int64)) := D1 (Or.inr (hw _ (List.mem_of_getElem? (i := 17) rfl))) (ty := .long) (by decide)
  have f5 : Fld Z h1 b1 "com/example/pactum/pactum/replay/Checkpoints$Plan" "part" "J" (.long (0 : Int64)) := D1 (Or.inr (hw _ (List.mem_of_getElem? (i := 19) rfl))) (ty := .long) (by decide)
  have f6 : Fld Z h1 b1 "com/example/pactum/pactum/replay/Checkpoints$Plan" "cost" "J" (.long (0 : Int64)) := D1 (Or.inr (hw _ (List.mem_of_getElem? (i := 21) rfl))) (ty := .long) (by decide)
  have st7 : own_Go p e below (T1.setTop (mkF m 3 #[.val (.long xr), .second, .val (.long xc), .second, .val (.long xp), .second, .val (.long xk), .second, .val (.long xw), .second, .val (.long xs), .second, .unset, .unset, .unset, .unset] [(.ref b1)])) (s₁.setTop (entryFrame m #[(.long xr), (.long xc), (.long xp), (.long xk), (.long xw), (.long xs)] maxLocals)) := fun t kt => st0 t (ls1 t kt)
  have st8 : own_Go p e below (T1.setTop (mkF m 10 #[.val (.long xr), .second, .val (.long xc), .second, .val (.long xp), .second, .val (.long xk), .second, .val (.long xw), .second, .val (.long xs), .second, .unset, .unset, .unset, .unset] [(.long xk), (.long xp), (.long xc), (.long xr), (.ref b1), (.ref b1)])) (s₁.setTop (entryFrame m #[(.long xr), (.long xc), (.long xp), (.long xk), (.long xw), (.long xs)] maxLocals)) := fun t kt => st7 t (by
    show Steps p.tables e below (T1.setTop (mkF m 3 #[.val (.long xr), .second, .val (.long xc), .second, .val (.long xp), .second, .val (.long xk), .second, .val (.long xw), .second, .val (.long xs), .second, .unset, .unset, .unset, .unset] [(.ref b1)])) _
    refine XS.dup X1.here hx rfl (hb hby at_3) rfl rfl ?_
    show Steps p.tables e below (T1.setTop (mkF m 4 #[.val (.long xr), .second, .val (.long xc), .second, .val (.long xp), .second, .val (.long xk), .second, .val (.long xw), .second, .val (.long xs), .second, .unset, .unset, .unset, .unset] [(.ref b1), (.ref b1)])) _
    refine XS.lloadN X1.here hx rfl (hb hby at_4) rfl ?_
    show Steps p.tables e below (T1.setTop (mkF m 5 #[.val (.long xr), .second, .val (.long xc), .second, .val (.long xp), .second, .val (.long xk), .second, .val (.long xw), .second, .val (.long xs), .second, .unset, .unset, .unset, .unset] [(.long xr), (.ref b1), (.ref b1)])) _
    refine XS.lloadN X1.here hx rfl (hb hby at_5) rfl ?_
    show Steps p.tables e below (T1.setTop (mkF m 6 #[.val (.long xr), .second, .val (.long xc), .second, .val (.long xp), .second, .val (.long xk), .second, .val (.long xw), .second, .val (.long xs), .second, .unset, .unset, .unset, .unset] [(.long xc), (.long xr), (.ref b1), (.ref b1)])) _
    refine XS.lload X1.here hx rfl (hb hby at_6) rfl ?_
    show Steps p.tables e below (T1.setTop (mkF m 8 #[.val (.long xr), .second, .val (.long xc), .second, .val (.long xp), .second, .val (.long xk), .second, .val (.long xw), .second, .val (.long xs), .second, .unset, .unset, .unset, .unset] [(.long xp), (.long xc), (.long xr), (.ref b1), (.ref b1)])) _
    refine XS.lload X1.here hx rfl (hb hby at_8) rfl ?_
    show Steps p.tables e below (T1.setTop (mkF m 10 #[.val (.long xr), .second, .val (.long xc), .second, .val (.long xp), .second, .val (.long xk), .second, .val (.long xw), .second, .val (.long xs), .second, .unset, .unset, .unset, .unset] [(.long xk), (.long xp), (.long xc), (.long xr), (.ref b1), (.ref b1)])) _
    exact kt)
  obtain ⟨_, _, ⟨T9, L9, k9, n9⟩, -, X9, ⟨Lc9, hQ9, l9, y9, z9⟩, ls9⟩ := X1.specialBack hx (y := (⟨"com/example/pactum/pactum/replay/Checkpoints$Plan", "<init>", "(JJJJ)V"⟩ : MethodName)) rfl hown (mvT hZ (hw _ (List.mem_of_getElem? (i := 3) rfl))) (mvT hZ (hw _ (List.mem_of_getElem? (i := 4) rfl))) (mvT hZ (hw _ (List.mem_of_getElem? (i := 5) rfl))) (by decide) (backOf (W := 1) (rm_init l Z a0 hw [] b1 xr xc xp xk h1 n0 z2 f3 f4 f5 f6 A1 g_b1) hZ (hw _ (List.mem_of_getElem? (i := 5) rfl)) (hw _ (List.mem_of_getElem? (i := 2) rfl)) (by decide) (by decide)) (g := (mkF m 10 #[.val (.long xr), .second, .val (.long xc), .second, .val (.long xp), .second, .val (.long xk), .second, .val (.long xw), .second, .val (.long xs), .second, .unset, .unset, .unset, .unset] [(.long xk), (.long xp), (.long xc), (.long xr), (.ref b1), (.ref b1)])) rfl (by rw [hml]; rfl) (Steps.refl _) (a := b1) (argsL := [(.long xr), (.long xc), (.long xp), (.long xk)]) (rest := [(.ref b1)]) (lenOf own_pd1 rfl) rfl (by show 2 * 0 + _ ≤ _; exact Nat.le_of_eq rfl) (hb hby at_10) (fun _ _ => ⟨rfl, e1, (by decide : 1 + 0 ≤ _), (by decide : 4 + 0 ≤ _)⟩)
  dsimp only [Pt.U, Pt.locs, Pt.cells, Pt.slots] at X9 l9 y9 z9 ls9 hQ9
  subst l9 y9 z9
  obtain ⟨rfl, Nq9, Kq9, Fq9_runTime, Fq9_checkpoints, Fq9_part, Fq9_cost⟩ := hQ9
  have N9 := Fr.app N0 Nq9
  have f10 := A1.keep Kq9
  have z15 := Nat.le_trans z2 Kq9.1
  have st16 : own_Go p e below (T9.setTop (mkF m 13 #[.val (.long xr), .second, .val (.long xc), .second, .val (.long xp), .second, .val (.long xk), .second, .val (.long xw), .second, .val (.long xs), .second, .unset, .unset, .unset, .unset] [(.ref b1)])) (s₁.setTop (entryFrame m #[(.long xr), (.long xc), (.long xp), (.long xk), (.long xw), (.long xs)] maxLocals)) := fun t kt => st8 t (ls9.trans kt)
  have st17 : own_Go p e below (T9.setTop (mkF m 18 #[.val (.long xr), .second, .val (.long xc), .second, .val (.long xp), .second, .val (.long xk), .second, .val (.long xw), .second, .val (.long xs), .second, .val (.ref b1), .unset, .unset, .unset] [(.long xc), (.ref b1)])) (s₁.setTop (entryFrame m #[(.long xr), (.long xc), (.long xp), (.long xk), (.long xw), (.long xs)] maxLocals)) := fun t kt => st16 t (by
    show Steps p.tables e below (T9.setTop (mkF m 13 #[.val (.long xr), .second, .val (.long xc), .second, .val (.long xp), .second, .val (.long xk), .second, .val (.long xw), .second, .val (.long xs), .second, .unset, .unset, .unset, .unset] [(.ref b1)])) _
    refine XS.astore X9.here hx rfl (hb hby at_13) rfl rfl (l' := #[.val (.long xr), .second, .val (.long xc), .second, .val (.long xp), .second, .val (.long xk), .second, .val (.long xw), .second, .val (.long xs), .second, .val (.ref b1), .unset, .unset, .unset]) rfl ?_
    show Steps p.tables e below (T9.setTop (mkF m 15 #[.val (.long xr), .second, .val (.long xc), .second, .val (.long xp), .second, .val (.long xk), .second, .val (.long xw), .second, .val (.long xs), .second, .val (.ref b1), .unset, .unset, .unset] [])) _
    refine XS.aload X9.here hx rfl (hb hby at_15) rfl rfl ?_
    show Steps p.tables e below (T9.setTop (mkF m 17 #[.val (.long xr), .second, .val (.long xc), .second, .val (.long xp), .second, .val (.long xk), .second, .val (.long xw), .second, .val (.long xs), .second, .val (.ref b1), .unset, .unset, .unset] [(.ref b1)])) _
    refine XS.lloadN X9.here hx rfl (hb hby at_17) rfl ?_
    show Steps p.tables e below (T9.setTop (mkF m 18 #[.val (.long xr), .second, .val (.long xc), .second, .val (.long xp), .second, .val (.long xk), .second, .val (.long xw), .second, .val (.long xs), .second, .val (.ref b1), .unset, .unset, .unset] [(.long xc), (.ref b1)])) _
    exact kt)
  obtain ⟨cq18, kq18, q18a, q18b, q18c⟩ := isOf hZ rfl f10
  obtain ⟨_, _, ⟨T18, L18, k18, n18⟩, -, X18, ⟨Lc18, hQ18, l18, y18, z18⟩, ls18⟩ := X9.virtualBack hx (y := (⟨"com/example/pactum/pactum/replay/Checkpoints$Plan", "length", "(J)J"⟩ : MethodName)) (z := (⟨"com/example/pactum/pactum/replay/Checkpoints$Plan", "length", "(J)J"⟩ : MethodName)) hown (mvT hZ (hw _ (List.mem_of_getElem? (i := 22) rfl))) (mvT hZ (hw _ (List.mem_of_getElem? (i := 23) rfl))) (notFace_of_selects (args := #[]) (mvT hZ (hw _ (List.mem_of_getElem? (i := 25) rfl)))) (mvT hZ (hw _ (List.mem_of_getElem? (i := 25) rfl))) (mvT hZ (hw _ (List.mem_of_getElem? (i := 24) rfl))) (by decide) (backOf (W := 0) (rm_len l Z a0 hw [] b1 xc xr xc xp xk T9.heap n0 z15 Fq9_runTime Fq9_checkpoints Fq9_part Fq9_cost) hZ (hw _ (List.mem_of_getElem? (i := 26) rfl)) (hw _ (List.mem_of_getElem? (i := 2) rfl)) (by decide) (by decide)) q18a q18c (g := (mkF m 18 #[.val (.long xr), .second, .val (.long xc), .second, .val (.long xp), .second, .val (.long xk), .second, .val (.long xw), .second, .val (.long xs), .second, .val (.ref b1), .unset, .unset, .unset] [(.long xc), (.ref b1)])) rfl (by rw [hml]; rfl) (Steps.refl _) (argsL := [(.long xc)]) (rest := []) (lenOf own_pd2 rfl) rfl (by show 2 * 0 + _ ≤ _; exact Nat.le_of_eq rfl) (hb hby at_18) (fun _ _ => ⟨rfl, rfl, (by decide : 1 + 0 ≤ _), (by decide : 4 + 0 ≤ _)⟩)
  dsimp only [Pt.U, Pt.locs, Pt.cells, Pt.slots] at X18 l18 y18 z18 ls18 hQ18
  subst l18 y18 z18
  obtain ⟨rfl, Nq18, eq18⟩ := hQ18
  have N18 := Fr.app N9 Nq18
  have st19 : own_Go p e below (T18.setTop (mkF m 21 #[.val (.long xr), .second, .val (.long xc), .second, .val (.long xp), .second, .val (.long xk), .second, .val (.long xw), .second, .val (.long xs), .second, .val (.ref b1), .unset, .unset, .unset] [(.long ((xr - (xc * xp)) + ((xc - xc) * xk)))])) (s₁.setTop (entryFrame m #[(.long xr), (.long xc), (.long xp), (.long xk), (.long xw), (.long xs)] maxLocals)) := fun t kt => st17 t (ls18.trans kt)
  have hc20 : ((xr - (xc * xp)) + ((xc - xc) * xk)) = (xr - (xc * xp)) := by grind
  have st21 : own_Go p e below (T18.setTop (mkF m 41 #[.val (.long xr), .second, .val (.long xc), .second, .val (.long xp), .second, .val (.long xk), .second, .val (.long xw), .second, .val (.long xs), .second, .val (.ref b1), .val (.int (1 : Int32)), .unset, .unset] [(.long (0 : Int64)), (.ref b1)])) (s₁.setTop (entryFrame m #[(.long xr), (.long xc), (.long xp), (.long xk), (.long xw), (.long xs)] maxLocals)) := fun t kt => st19 t (by
    show Steps p.tables e below (T18.setTop (mkF m 21 #[.val (.long xr), .second, .val (.long xc), .second, .val (.long xp), .second, .val (.long xk), .second, .val (.long xw), .second, .val (.long xs), .second, .val (.ref b1), .unset, .unset, .unset] [(.long ((xr - (xc * xp)) + ((xc - xc) * xk)))])) _
    refine XS.lloadN X18.here hx rfl (hb hby at_21) rfl ?_
    show Steps p.tables e below (T18.setTop (mkF m 22 #[.val (.long xr), .second, .val (.long xc), .second, .val (.long xp), .second, .val (.long xk), .second, .val (.long xw), .second, .val (.long xs), .second, .val (.ref b1), .unset, .unset, .unset] [(.long xr), (.long ((xr - (xc * xp)) + ((xc - xc) * xk)))])) _
    refine XS.lloadN X18.here hx rfl (hb hby at_22) rfl ?_
    show Steps p.tables e below (T18.setTop (mkF m 23 #[.val (.long xr), .second, .val (.long xc), .second, .val (.long xp), .second, .val (.long xk), .second, .val (.long xw), .second, .val (.long xs), .second, .val (.ref b1), .unset, .unset, .unset] [(.long xc), (.long xr), (.long ((xr - (xc * xp)) + ((xc - xc) * xk)))])) _
    refine XS.lload X18.here hx rfl (hb hby at_23) rfl ?_
    show Steps p.tables e below (T18.setTop (mkF m 25 #[.val (.long xr), .second, .val (.long xc), .second, .val (.long xp), .second, .val (.long xk), .second, .val (.long xw), .second, .val (.long xs), .second, .val (.ref b1), .unset, .unset, .unset] [(.long xp), (.long xc), (.long xr), (.long ((xr - (xc * xp)) + ((xc - xc) * xk)))])) _
    refine XS.lmul X18.here hx rfl (hb hby at_25) rfl ?_
    show Steps p.tables e below (T18.setTop (mkF m 26 #[.val (.long xr), .second, .val (.long xc), .second, .val (.long xp), .second, .val (.long xk), .second, .val (.long xw), .second, .val (.long xs), .second, .val (.ref b1), .unset, .unset, .unset] [(.long (xc * xp)), (.long xr), (.long ((xr - (xc * xp)) + ((xc - xc) * xk)))])) _
    refine XS.lsub X18.here hx rfl (hb hby at_26) rfl ?_
    show Steps p.tables e below (T18.setTop (mkF m 27 #[.val (.long xr), .second, .val (.long xc), .second, .val (.long xp), .second, .val (.long xk), .second, .val (.long xw), .second, .val (.long xs), .second, .val (.ref b1), .unset, .unset, .unset] [(.long (xr - (xc * xp))), (.long ((xr - (xc * xp)) + ((xc - xc) * xk)))])) _
    refine XS.lcmp X18.here hx rfl (hb hby at_27) rfl ?_
    show Steps p.tables e below (T18.setTop (mkF m 28 #[.val (.long xr), .second, .val (.long xc), .second, .val (.long xp), .second, .val (.long xk), .second, .val (.long xw), .second, .val (.long xs), .second, .val (.ref b1), .unset, .unset, .unset] [(.int (lcmpW ((xr - (xc * xp)) + ((xc - xc) * xk)) (xr - (xc * xp))))])) _
    refine XS.ifNo X18.here hx rfl (hb hby at_28) rfl ((if0 _ _).trans (teq ((lw_eq _ _).mpr hc20)).2) ?_
    show Steps p.tables e below (T18.setTop (mkF m 31 #[.val (.long xr), .second, .val (.long xc), .second, .val (.long xp), .second, .val (.long xk), .second, .val (.long xw), .second, .val (.long xs), .second, .val (.ref b1), .unset, .unset, .unset] [])) _
    refine XS.iconst X18.here hx rfl (hb hby at_31) ?_
    show Steps p.tables e below (T18.setTop (mkF m 32 #[.val (.long xr), .second, .val (.long xc), .second, .val (.long xp), .second, .val (.long xk), .second, .val (.long xw), .second, .val (.long xs), .second, .val (.ref b1), .unset, .unset, .unset] [(.int (1 : Int32))])) _
    refine XS.goto X18.here hx rfl (pc0 := 32) (pc' := 36) rfl (hb hby at_32) (by decide) (by decide) ?_
    show Steps p.tables e below (T18.setTop (mkF m 36 #[.val (.long xr), .second, .val (.long xc), .second, .val (.long xp), .second, .val (.long xk), .second, .val (.long xw), .second, .val (.long xs), .second, .val (.ref b1), .unset, .unset, .unset] [(.int (1 : Int32))])) _
    refine XS.istore X18.here hx rfl (hb hby at_36) rfl (l' := #[.val (.long xr), .second, .val (.long xc), .second, .val (.long xp), .second, .val (.long xk), .second, .val (.long xw), .second, .val (.long xs), .second, .val (.ref b1), .val (.int (1 : Int32)), .unset, .unset]) rfl ?_
    show Steps p.tables e below (T18.setTop (mkF m 38 #[.val (.long xr), .second, .val (.long xc), .second, .val (.long xp), .second, .val (.long xk), .second, .val (.long xw), .second, .val (.long xs), .second, .val (.ref b1), .val (.int (1 : Int32)), .unset, .unset] [])) _
    refine XS.aload X18.here hx rfl (hb hby at_38) rfl rfl ?_
    show Steps p.tables e below (T18.setTop (mkF m 40 #[.val (.long xr), .second, .val (.long xc), .second, .val (.long xp), .second, .val (.long xk), .second, .val (.long xw), .second, .val (.long xs), .second, .val (.ref b1), .val (.int (1 : Int32)), .unset, .unset] [(.ref b1)])) _
    refine XS.lconst X18.here hx rfl (hb hby at_40) ?_
    show Steps p.tables e below (T18.setTop (mkF m 41 #[.val (.long xr), .second, .val (.long xc), .second, .val (.long xp), .second, .val (.long xk), .second, .val (.long xw), .second, .val (.long xs), .second, .val (.ref b1), .val (.int (1 : Int32)), .unset, .unset] [(.long (0 : Int64)), (.ref b1)])) _
    exact kt)
  obtain ⟨cq22, kq22, q22a, q22b, q22c⟩ := isOf hZ eq18 f10
  obtain ⟨_, _, ⟨T22, L22, k22, n22⟩, -, X22, ⟨Lc22, hQ22, l22, y22, z22⟩, ls22⟩ := X18.virtualBack hx (y := (⟨"com/example/pactum/pactum/replay/Checkpoints$Plan", "length", "(J)J"⟩ : MethodName)) (z := (⟨"com/example/pactum/pactum/replay/Checkpoints$Plan", "length", "(J)J"⟩ : MethodName)) hown (mvT hZ (hw _ (List.mem_of_getElem? (i := 22) rfl))) (mvT hZ (hw _ (List.mem_of_getElem? (i := 23) rfl))) (notFace_of_selects (args := #[]) (mvT hZ (hw _ (List.mem_of_getElem? (i := 25) rfl)))) (mvT hZ (hw _ (List.mem_of_getElem? (i := 25) rfl))) (mvT hZ (hw _ (List.mem_of_getElem? (i := 24) rfl))) (by decide) (backOf (W := 0) (rm_len l Z a0 hw [] b1 ((0 : Int64)) xr xc xp xk T9.heap n0 z15 Fq9_runTime Fq9_checkpoints Fq9_part Fq9_cost) hZ (hw _ (List.mem_of_getElem? (i := 26) rfl)) (hw _ (List.mem_of_getElem? (i := 2) rfl)) (by decide) (by decide)) q22a q22c (g := (mkF m 41 #[.val (.long xr), .second, .val (.long xc), .second, .val (.long xp), .second, .val (.long xk), .second, .val (.long xw), .second, .val (.long xs), .second, .val (.ref b1), .val (.int (1 : Int32)), .unset, .unset] [(.long (0 : Int64)), (.ref b1)])) rfl (by rw [hml]; rfl) (Steps.refl _) (argsL := [(.long (0 : Int64))]) (rest := []) (lenOf own_pd2 rfl) rfl (by show 2 * 0 + _ ≤ _; exact Nat.le_of_eq rfl) (hb hby at_41) (fun _ _ => ⟨rfl, eq18, (by decide : 1 + 0 ≤ _), (by decide : 4 + 0 ≤ _)⟩)
  dsimp only [Pt.U, Pt.locs, Pt.cells, Pt.slots] at X22 l22 y22 z22 ls22 hQ22
  subst l22 y22 z22
  obtain ⟨rfl, Nq22, eq22⟩ := hQ22
  have N22 := Fr.app N18 Nq22
  have st23 : own_Go p e below (T22.setTop (mkF m 44 #[.val (.long xr), .second, .val (.long xc), .second, .val (.long xp), .second, .val (.long xk), .second, .val (.long xw), .second, .val (.long xs), .second, .val (.ref b1), .val (.int (1 : Int32)), .unset, .unset] [(.long ((xr - ((0 : Int64) * xp)) + ((xc - (0 : Int64)) * xk)))])) (s₁.setTop (entryFrame m #[(.long xr), (.long xc), (.long xp), (.long xk), (.long xw), (.long xs)] maxLocals)) := fun t kt => st21 t (ls22.trans kt)
  have hc24 : ((xr - ((0 : Int64) * xp)) + ((xc - (0 : Int64)) * xk)) = (xr + (xc * xk)) := by grind
  have st25 : own_Go p e below (T22.setTop (mkF m 65 #[.val (.long xr), .second, .val (.long xc), .second, .val (.long xp), .second, .val (.long xk), .second, .val (.long xw), .second, .val (.long xs), .second, .val (.ref b1), .val (.int (1 : Int32)), .val (.int (1 : Int32)), .unset] [(.long xw), (.ref b1)])) (s₁.setTop (entryFrame m #[(.long xr), (.long xc), (.long xp), (.long xk), (.long xw), (.long xs)] maxLocals)) := fun t kt => st23 t (by
    show Steps p.tables e below (T22.setTop (mkF m 44 #[.val (.long xr), .second, .val (.long xc), .second, .val (.long xp), .second, .val (.long xk), .second, .val (.long xw), .second, .val (.long xs), .second, .val (.ref b1), .val (.int (1 : Int32)), .unset, .unset] [(.long ((xr - ((0 : Int64) * xp)) + ((xc - (0 : Int64)) * xk)))])) _
    refine XS.lloadN X22.here hx rfl (hb hby at_44) rfl ?_
    show Steps p.tables e below (T22.setTop (mkF m 45 #[.val (.long xr), .second, .val (.long xc), .second, .val (.long xp), .second, .val (.long xk), .second, .val (.long xw), .second, .val (.long xs), .second, .val (.ref b1), .val (.int (1 : Int32)), .unset, .unset] [(.long xr), (.long ((xr - ((0 : Int64) * xp)) + ((xc - (0 : Int64)) * xk)))])) _
    refine XS.lloadN X22.here hx rfl (hb hby at_45) rfl ?_
    show Steps p.tables e below (T22.setTop (mkF m 46 #[.val (.long xr), .second, .val (.long xc), .second, .val (.long xp), .second, .val (.long xk), .second, .val (.long xw), .second, .val (.long xs), .second, .val (.ref b1), .val (.int (1 : Int32)), .unset, .unset] [(.long xc), (.long xr), (.long ((xr - ((0 : Int64) * xp)) + ((xc - (0 : Int64)) * xk)))])) _
    refine XS.lload X22.here hx rfl (hb hby at_46) rfl ?_
    show Steps p.tables e below (T22.setTop (mkF m 48 #[.val (.long xr), .second, .val (.long xc), .second, .val (.long xp), .second, .val (.long xk), .second, .val (.long xw), .second, .val (.long xs), .second, .val (.ref b1), .val (.int (1 : Int32)), .unset, .unset] [(.long xk), (.long xc), (.long xr), (.long ((xr - ((0 : Int64) * xp)) + ((xc - (0 : Int64)) * xk)))])) _
    refine XS.lmul X22.here hx rfl (hb hby at_48) rfl ?_
    show Steps p.tables e below (T22.setTop (mkF m 49 #[.val (.long xr), .second, .val (.long xc), .second, .val (.long xp), .second, .val (.long xk), .second, .val (.long xw), .second, .val (.long xs), .second, .val (.ref b1), .val (.int (1 : Int32)), .unset, .unset] [(.long (xc * xk)), (.long xr), (.long ((xr - ((0 : Int64) * xp)) + ((xc - (0 : Int64)) * xk)))])) _
    refine XS.ladd X22.here hx rfl (hb hby at_49) rfl ?_
    show Steps p.tables e below (T22.setTop (mkF m 50 #[.val (.long xr), .second, .val (.long xc), .second, .val (.long xp), .second, .val (.long xk), .second, .val (.long xw), .second, .val (.long xs), .second, .val (.ref b1), .val (.int (1 : Int32)), .unset, .unset] [(.long (xr + (xc * xk))), (.long ((xr - ((0 : Int64) * xp)) + ((xc - (0 : Int64)) * xk)))])) _
    refine XS.lcmp X22.here hx rfl (hb hby at_50) rfl ?_
    show Steps p.tables e below (T22.setTop (mkF m 51 #[.val (.long xr), .second, .val (.long xc), .second, .val (.long xp), .second, .val (.long xk), .second, .val (.long xw), .second, .val (.long xs), .second, .val (.ref b1), .val (.int (1 : Int32)), .unset, .unset] [(.int (lcmpW ((xr - ((0 : Int64) * xp)) + ((xc - (0 : Int64)) * xk)) (xr + (xc * xk))))])) _
    refine XS.ifNo X22.here hx rfl (hb hby at_51) rfl ((if0 _ _).trans (teq ((lw_eq _ _).mpr hc24)).2) ?_
    show Steps p.tables e below (T22.setTop (mkF m 54 #[.val (.long xr), .second, .val (.long xc), .second, .val (.long xp), .second, .val (.long xk), .second, .val (.long xw), .second, .val (.long xs), .second, .val (.ref b1), .val (.int (1 : Int32)), .unset, .unset] [])) _
    refine XS.iconst X22.here hx rfl (hb hby at_54) ?_
    show Steps p.tables e below (T22.setTop (mkF m 55 #[.val (.long xr), .second, .val (.long xc), .second, .val (.long xp), .second, .val (.long xk), .second, .val (.long xw), .second, .val (.long xs), .second, .val (.ref b1), .val (.int (1 : Int32)), .unset, .unset] [(.int (1 : Int32))])) _
    refine XS.goto X22.here hx rfl (pc0 := 55) (pc' := 59) rfl (hb hby at_55) (by decide) (by decide) ?_
    show Steps p.tables e below (T22.setTop (mkF m 59 #[.val (.long xr), .second, .val (.long xc), .second, .val (.long xp), .second, .val (.long xk), .second, .val (.long xw), .second, .val (.long xs), .second, .val (.ref b1), .val (.int (1 : Int32)), .unset, .unset] [(.int (1 : Int32))])) _
    refine XS.istore X22.here hx rfl (hb hby at_59) rfl (l' := #[.val (.long xr), .second, .val (.long xc), .second, .val (.long xp), .second, .val (.long xk), .second, .val (.long xw), .second, .val (.long xs), .second, .val (.ref b1), .val (.int (1 : Int32)), .val (.int (1 : Int32)), .unset]) rfl ?_
    show Steps p.tables e below (T22.setTop (mkF m 61 #[.val (.long xr), .second, .val (.long xc), .second, .val (.long xp), .second, .val (.long xk), .second, .val (.long xw), .second, .val (.long xs), .second, .val (.ref b1), .val (.int (1 : Int32)), .val (.int (1 : Int32)), .unset] [])) _
    refine XS.aload X22.here hx rfl (hb hby at_61) rfl rfl ?_
    show Steps p.tables e below (T22.setTop (mkF m 63 #[.val (.long xr), .second, .val (.long xc), .second, .val (.long xp), .second, .val (.long xk), .second, .val (.long xw), .second, .val (.long xs), .second, .val (.ref b1), .val (.int (1 : Int32)), .val (.int (1 : Int32)), .unset] [(.ref b1)])) _
    refine XS.lload X22.here hx rfl (hb hby at_63) rfl ?_
    show Steps p.tables e below (T22.setTop (mkF m 65 #[.val (.long xr), .second, .val (.long xc), .second, .val (.long xp), .second, .val (.long xk), .second, .val (.long xw), .second, .val (.long xs), .second, .val (.ref b1), .val (.int (1 : Int32)), .val (.int (1 : Int32)), .unset] [(.long xw), (.ref b1)])) _
    exact kt)
  obtain ⟨cq26, kq26, q26a, q26b, q26c⟩ := isOf hZ eq22 f10
  obtain ⟨_, _, ⟨T26, L26, k26, n26⟩, -, X26, ⟨Lc26, hQ26, l26, y26, z26⟩, ls26⟩ := X22.virtualBack hx (y := (⟨"com/example/pactum/pactum/replay/Checkpoints$Plan", "length", "(J)J"⟩ : MethodName)) (z := (⟨"com/example/pactum/pactum/replay/Checkpoints$Plan", "length", "(J)J"⟩ : MethodName)) hown (mvT hZ (hw _ (List.mem_of_getElem? (i := 22) rfl))) (mvT hZ (hw _ (List.mem_of_getElem? (i := 23) rfl))) (notFace_of_selects (args := #[]) (mvT hZ (hw _ (List.mem_of_getElem? (i := 25) rfl)))) (mvT hZ (hw _ (List.mem_of_getElem? (i := 25) rfl))) (mvT hZ (hw _ (List.mem_of_getElem? (i := 24) rfl))) (by decide) (backOf (W := 0) (rm_len l Z a0 hw [] b1 xw xr xc xp xk T9.heap n0 z15 Fq9_runTime Fq9_checkpoints Fq9_part Fq9_cost) hZ (hw _ (List.mem_of_getElem? (i := 26) rfl)) (hw _ (List.mem_of_getElem? (i := 2) rfl)) (by decide) (by decide)) q26a q26c (g := (mkF m 65 #[.val (.long xr), .second, .val (.long xc), .second, .val (.long xp), .second, .val (.long xk), .second, .val (.long xw), .second, .val (.long xs), .second, .val (.ref b1), .val (.int (1 : Int32)), .val (.int (1 : Int32)), .unset] [(.long xw), (.ref b1)])) rfl (by rw [hml]; rfl) (Steps.refl _) (argsL := [(.long xw)]) (rest := []) (lenOf own_pd2 rfl) rfl (by show 2 * 0 + _ ≤ _; exact Nat.le_of_eq rfl) (hb hby at_65) (fun _ _ => ⟨rfl, eq22, (by decide : 1 + 0 ≤ _), (by decide : 4 + 0 ≤ _)⟩)
  dsimp only [Pt.U, Pt.locs, Pt.cells, Pt.slots] at X26 l26 y26 z26 ls26 hQ26
  subst l26 y26 z26
  obtain ⟨rfl, Nq26, eq26⟩ := hQ26
  have N26 := Fr.app N22 Nq26
  have st27 : own_Go p e below (T26.setTop (mkF m 68 #[.val (.long xr), .second, .val (.long xc), .second, .val (.long xp), .second, .val (.long xk), .second, .val (.long xw), .second, .val (.long xs), .second, .val (.ref b1), .val (.int (1 : Int32)), .val (.int (1 : Int32)), .unset] [(.long ((xr - (xw * xp)) + ((xc - xw) * xk)))])) (s₁.setTop (entryFrame m #[(.long xr), (.long xc), (.long xp), (.long xk), (.long xw), (.long xs)] maxLocals)) := fun t kt => st25 t (ls26.trans kt)
  have st28 : own_Go p e below (T26.setTop (mkF m 75 #[.val (.long xr), .second, .val (.long xc), .second, .val (.long xp), .second, .val (.long xk), .second, .val (.long xw), .second, .val (.long xs), .second, .val (.ref b1), .val (.int (1 : Int32)), .val (.int (1 : Int32)), .unset] [(.long (xw + xs)), (.ref b1), (.long ((xr - (xw * xp)) + ((xc - xw) * xk)))])) (s₁.setTop (entryFrame m #[(.long xr), (.long xc), (.long xp), (.long xk), (.long xw), (.long xs)] maxLocals)) := fun t kt => st27 t (by
    show Steps p.tables e below (T26.setTop (mkF m 68 #[.val (.long xr), .second, .val (.long xc), .second, .val (.long xp), .second, .val (.long xk), .second, .val (.long xw), .second, .val (.long xs), .second, .val (.ref b1), .val (.int (1 : Int32)), .val (.int (1 : Int32)), .unset] [(.long ((xr - (xw * xp)) + ((xc - xw) * xk)))])) _
    refine XS.aload X26.here hx rfl (hb hby at_68) rfl rfl ?_
    show Steps p.tables e below (T26.setTop (mkF m 70 #[.val (.long xr), .second, .val (.long xc), .second, .val (.long xp), .second, .val (.long xk), .second, .val (.long xw), .second, .val (.long xs), .second, .val (.ref b1), .val (.int (1 : Int32)), .val (.int (1 : Int32)), .unset] [(.ref b1), (.long ((xr - (xw * xp)) + ((xc - xw) * xk)))])) _
    refine XS.lload X26.here hx rfl (hb hby at_70) rfl ?_
    show Steps p.tables e below (T26.setTop (mkF m 72 #[.val (.long xr), .second, .val (.long xc), .second, .val (.long xp), .second, .val (.long xk), .second, .val (.long xw), .second, .val (.long xs), .second, .val (.ref b1), .val (.int (1 : Int32)), .val (.int (1 : Int32)), .unset] [(.long xw), (.ref b1), (.long ((xr - (xw * xp)) + ((xc - xw) * xk)))])) _
    refine XS.lload X26.here hx rfl (hb hby at_72) rfl ?_
    show Steps p.tables e below (T26.setTop (mkF m 74 #[.val (.long xr), .second, .val (.long xc), .second, .val (.long xp), .second, .val (.long xk), .second, .val (.long xw), .second, .val (.long xs), .second, .val (.ref b1), .val (.int (1 : Int32)), .val (.int (1 : Int32)), .unset] [(.long xs), (.long xw), (.ref b1), (.long ((xr - (xw * xp)) + ((xc - xw) * xk)))])) _
    refine XS.ladd X26.here hx rfl (hb hby at_74) rfl ?_
    show Steps p.tables e below (T26.setTop (mkF m 75 #[.val (.long xr), .second, .val (.long xc), .second, .val (.long xp), .second, .val (.long xk), .second, .val (.long xw), .second, .val (.long xs), .second, .val (.ref b1), .val (.int (1 : Int32)), .val (.int (1 : Int32)), .unset] [(.long (xw + xs)), (.ref b1), (.long ((xr - (xw * xp)) + ((xc - xw) * xk)))])) _
    exact kt)
  obtain ⟨cq29, kq29, q29a, q29b, q29c⟩ := isOf hZ eq26 f10
  obtain ⟨_, _, ⟨T29, L29, k29, n29⟩, -, X29, ⟨Lc29, hQ29, l29, y29, z29⟩, ls29⟩ := X26.virtualBack hx (y := (⟨"com/example/pactum/pactum/replay/Checkpoints$Plan", "length", "(J)J"⟩ : MethodName)) (z := (⟨"com/example/pactum/pactum/replay/Checkpoints$Plan", "length", "(J)J"⟩ : MethodName)) hown (mvT hZ (hw _ (List.mem_of_getElem? (i := 22) rfl))) (mvT hZ (hw _ (List.mem_of_getElem? (i := 23) rfl))) (notFace_of_selects (args := #[]) (mvT hZ (hw _ (List.mem_of_getElem? (i := 25) rfl)))) (mvT hZ (hw _ (List.mem_of_getElem? (i := 25) rfl))) (mvT hZ (hw _ (List.mem_of_getElem? (i := 24) rfl))) (by decide) (backOf (W := 2) (rm_len l Z a0 hw [] b1 ((xw + xs)) xr xc xp xk T9.heap n0 z15 Fq9_runTime Fq9_checkpoints Fq9_part Fq9_cost) hZ (hw _ (List.mem_of_getElem? (i := 26) rfl)) (hw _ (List.mem_of_getElem? (i := 2) rfl)) (by decide) (by decide)) q29a q29c (g := (mkF m 75 #[.val (.long xr), .second, .val (.long xc), .second, .val (.long xp), .second, .val (.long xk), .second, .val (.long xw), .second, .val (.long xs), .second, .val (.ref b1), .val (.int (1 : Int32)), .val (.int (1 : Int32)), .unset] [(.long (xw + xs)), (.ref b1), (.long ((xr - (xw * xp)) + ((xc - xw) * xk)))])) rfl (by rw [hml]; rfl) (Steps.refl _) (argsL := [(.long (xw + xs))]) (rest := [(.long ((xr - (xw * xp)) + ((xc - xw) * xk)))]) (lenOf own_pd2 rfl) rfl (by show 2 * 0 + _ ≤ _; exact Nat.le_of_eq rfl) (hb hby at_75) (fun _ _ => ⟨rfl, eq26, (by decide : 1 + 0 ≤ _), (by decide : 4 + 0 ≤ _)⟩)
  dsimp only [Pt.U, Pt.locs, Pt.cells, Pt.slots] at X29 l29 y29 z29 ls29 hQ29
  subst l29 y29 z29
  obtain ⟨rfl, Nq29, eq29⟩ := hQ29
  have N29 := Fr.app N26 Nq29
  have st30 : own_Go p e below (T29.setTop (mkF m 78 #[.val (.long xr), .second, .val (.long xc), .second, .val (.long xp), .second, .val (.long xk), .second, .val (.long xw), .second, .val (.long xs), .second, .val (.ref b1), .val (.int (1 : Int32)), .val (.int (1 : Int32)), .unset] [(.long ((xr - ((xw + xs) * xp)) + ((xc - (xw + xs)) * xk))), (.long ((xr - (xw * xp)) + ((xc - xw) * xk)))])) (s₁.setTop (entryFrame m #[(.long xr), (.long xc), (.long xp), (.long xk), (.long xw), (.long xs)] maxLocals)) := fun t kt => st28 t (ls29.trans kt)
  have hc31 : (((xr - (xw * xp)) + ((xc - xw) * xk)) - ((xr - ((xw + xs) * xp)) + ((xc - (xw + xs)) * xk))) = (xs * (xp + xk)) := by grind
  have hc32 : ¬ ((1 : Int32) = (0 : Int32)) := by decide
  have hc33 : ¬ ((1 : Int32) = (0 : Int32)) := by decide
  have hc34 : ¬ ((1 : Int32) = (0 : Int32)) := by decide
  have st35 : own_Go p e below (T29.setTop (mkF m 118 #[.val (.long xr), .second, .val (.long xc), .second, .val (.long xp), .second, .val (.long xk), .second, .val (.long xw), .second, .val (.long xs), .second, .val (.ref b1), .val (.int (1 : Int32)), .val (.int (1 : Int32)), .val (.int (1 : Int32))] [(.int (1 : Int32))])) (s₁.setTop (entryFrame m #[(.long xr), (.long xc), (.long xp), (.long xk), (.long xw), (.long xs)] maxLocals)) := fun t kt => st30 t (by
    show Steps p.tables e below (T29.setTop (mkF m 78 #[.val (.long xr), .second, .val (.long xc), .second, .val (.long xp), .second, .val (.long xk), .second, .val (.long xw), .second, .val (.long xs), .second, .val (.ref b1), .val (.int (1 : Int32)), .val (.int (1 : Int32)), .unset] [(.long ((xr - ((xw + xs) * xp)) + ((xc - (xw + xs)) * xk))), (.long ((xr - (xw * xp)) + ((xc - xw) * xk)))])) _
    refine XS.lsub X29.here hx rfl (hb hby at_78) rfl ?_
    show Steps p.tables e below (T29.setTop (mkF m 79 #[.val (.long xr), .second, .val (.long xc), .second, .val (.long xp), .second, .val (.long xk), .second, .val (.long xw), .second, .val (.long xs), .second, .val (.ref b1), .val (.int (1 : Int32)), .val (.int (1 : Int32)), .unset] [(.long (((xr - (xw * xp)) + ((xc - xw) * xk)) - ((xr - ((xw + xs) * xp)) + ((xc - (xw + xs)) * xk))))])) _
    refine XS.lload X29.here hx rfl (hb hby at_79) rfl ?_
    show Steps p.tables e below (T29.setTop (mkF m 81 #[.val (.long xr), .second, .val (.long xc), .second, .val (.long xp), .second, .val (.long xk), .second, .val (.long xw), .second, .val (.long xs), .second, .val (.ref b1), .val (.int (1 : Int32)), .val (.int (1 : Int32)), .unset] [(.long xs), (.long (((xr - (xw * xp)) + ((xc - xw) * xk)) - ((xr - ((xw + xs) * xp)) + ((xc - (xw + xs)) * xk))))])) _
    refine XS.lload X29.here hx rfl (hb hby at_81) rfl ?_
    show Steps p.tables e below (T29.setTop (mkF m 83 #[.val (.long xr), .second, .val (.long xc), .second, .val (.long xp), .second, .val (.long xk), .second, .val (.long xw), .second, .val (.long xs), .second, .val (.ref b1), .val (.int (1 : Int32)), .val (.int (1 : Int32)), .unset] [(.long xp), (.long xs), (.long (((xr - (xw * xp)) + ((xc - xw) * xk)) - ((xr - ((xw + xs) * xp)) + ((xc - (xw + xs)) * xk))))])) _
    refine XS.lload X29.here hx rfl (hb hby at_83) rfl ?_
    show Steps p.tables e below (T29.setTop (mkF m 85 #[.val (.long xr), .second, .val (.long xc), .second, .val (.long xp), .second, .val (.long xk), .second, .val (.long xw), .second, .val (.long xs), .second, .val (.ref b1), .val (.int (1 : Int32)), .val (.int (1 : Int32)), .unset] [(.long xk), (.long xp), (.long xs), (.long (((xr - (xw * xp)) + ((xc - xw) * xk)) - ((xr - ((xw + xs) * xp)) + ((xc - (xw + xs)) * xk))))])) _
    refine XS.ladd X29.here hx rfl (hb hby at_85) rfl ?_
    show Steps p.tables e below (T29.setTop (mkF m 86 #[.val (.long xr), .second, .val (.long xc), .second, .val (.long xp), .second, .val (.long xk), .second, .val (.long xw), .second, .val (.long xs), .second, .val (.ref b1), .val (.int (1 : Int32)), .val (.int (1 : Int32)), .unset] [(.long (xp + xk)), (.long xs), (.long (((xr - (xw * xp)) + ((xc - xw) * xk)) - ((xr - ((xw + xs) * xp)) + ((xc - (xw + xs)) * xk))))])) _
    refine XS.lmul X29.here hx rfl (hb hby at_86) rfl ?_
    show Steps p.tables e below (T29.setTop (mkF m 87 #[.val (.long xr), .second, .val (.long xc), .second, .val (.long xp), .second, .val (.long xk), .second, .val (.long xw), .second, .val (.long xs), .second, .val (.ref b1), .val (.int (1 : Int32)), .val (.int (1 : Int32)), .unset] [(.long (xs * (xp + xk))), (.long (((xr - (xw * xp)) + ((xc - xw) * xk)) - ((xr - ((xw + xs) * xp)) + ((xc - (xw + xs)) * xk))))])) _
    refine XS.lcmp X29.here hx rfl (hb hby at_87) rfl ?_
    show Steps p.tables e below (T29.setTop (mkF m 88 #[.val (.long xr), .second, .val (.long xc), .second, .val (.long xp), .second, .val (.long xk), .second, .val (.long xw), .second, .val (.long xs), .second, .val (.ref b1), .val (.int (1 : Int32)), .val (.int (1 : Int32)), .unset] [(.int (lcmpW (((xr - (xw * xp)) + ((xc - xw) * xk)) - ((xr - ((xw + xs) * xp)) + ((xc - (xw + xs)) * xk))) (xs * (xp + xk))))])) _
    refine XS.ifNo X29.here hx rfl (hb hby at_88) rfl ((if0 _ _).trans (teq ((lw_eq _ _).mpr hc31)).2) ?_
    show Steps p.tables e below (T29.setTop (mkF m 91 #[.val (.long xr), .second, .val (.long xc), .second, .val (.long xp), .second, .val (.long xk), .second, .val (.long xw), .second, .val (.long xs), .second, .val (.ref b1), .val (.int (1 : Int32)), .val (.int (1 : Int32)), .unset] [])) _
    refine XS.iconst X29.here hx rfl (hb hby at_91) ?_
    show Steps p.tables e below (T29.setTop (mkF m 92 #[.val (.long xr), .second, .val (.long xc), .second, .val (.long xp), .second, .val (.long xk), .second, .val (.long xw), .second, .val (.long xs), .second, .val (.ref b1), .val (.int (1 : Int32)), .val (.int (1 : Int32)), .unset] [(.int (1 : Int32))])) _
    refine XS.goto X29.here hx rfl (pc0 := 92) (pc' := 96) rfl (hb hby at_92) (by decide) (by decide) ?_
    show Steps p.tables e below (T29.setTop (mkF m 96 #[.val (.long xr), .second, .val (.long xc), .second, .val (.long xp), .second, .val (.long xk), .second, .val (.long xw), .second, .val (.long xs), .second, .val (.ref b1), .val (.int (1 : Int32)), .val (.int (1 : Int32)), .unset] [(.int (1 : Int32))])) _
    refine XS.istore X29.here hx rfl (hb hby at_96) rfl (l' := #[.val (.long xr), .second, .val (.long xc), .second, .val (.long xp), .second, .val (.long xk), .second, .val (.long xw), .second, .val (.long xs), .second, .val (.ref b1), .val (.int (1 : Int32)), .val (.int (1 : Int32)), .val (.int (1 : Int32))]) rfl ?_
    show Steps p.tables e below (T29.setTop (mkF m 98 #[.val (.long xr), .second, .val (.long xc), .second, .val (.long xp), .second, .val (.long xk), .second, .val (.long xw), .second, .val (.long xs), .second, .val (.ref b1), .val (.int (1 : Int32)), .val (.int (1 : Int32)), .val (.int (1 : Int32))] [])) _
    refine XS.iload X29.here hx rfl (hb hby at_98) rfl ?_
    show Steps p.tables e below (T29.setTop (mkF m 100 #[.val (.long xr), .second, .val (.long xc), .second, .val (.long xp), .second, .val (.long xk), .second, .val (.long xw), .second, .val (.long xs), .second, .val (.ref b1), .val (.int (1 : Int32)), .val (.int (1 : Int32)), .val (.int (1 : Int32))] [(.int (1 : Int32))])) _
    refine XS.ifNo X29.here hx rfl (hb hby at_100) rfl ((if0 _ _).trans (feq hc32).1) ?_
    show Steps p.tables e below (T29.setTop (mkF m 103 #[.val (.long xr), .second, .val (.long xc), .second, .val (.long xp), .second, .val (.long xk), .second, .val (.long xw), .second, .val (.long xs), .second, .val (.ref b1), .val (.int (1 : Int32)), .val (.int (1 : Int32)), .val (.int (1 : Int32))] [])) _
    refine XS.iload X29.here hx rfl (hb hby at_103) rfl ?_
    show Steps p.tables e below (T29.setTop (mkF m 105 #[.val (.long xr), .second, .val (.long xc), .second, .val (.long xp), .second, .val (.long xk), .second, .val (.long xw), .second, .val (.long xs), .second, .val (.ref b1), .val (.int (1 : Int32)), .val (.int (1 : Int32)), .val (.int (1 : Int32))] [(.int (1 : Int32))])) _
    refine XS.ifNo X29.here hx rfl (hb hby at_105) rfl ((if0 _ _).trans (feq hc33).1) ?_
    show Steps p.tables e below (T29.setTop (mkF m 108 #[.val (.long xr), .second, .val (.long xc), .second, .val (.long xp), .second, .val (.long xk), .second, .val (.long xw), .second, .val (.long xs), .second, .val (.ref b1), .val (.int (1 : Int32)), .val (.int (1 : Int32)), .val (.int (1 : Int32))] [])) _
    refine XS.iload X29.here hx rfl (hb hby at_108) rfl ?_
    show Steps p.tables e below (T29.setTop (mkF m 110 #[.val (.long xr), .second, .val (.long xc), .second, .val (.long xp), .second, .val (.long xk), .second, .val (.long xw), .second, .val (.long xs), .second, .val (.ref b1), .val (.int (1 : Int32)), .val (.int (1 : Int32)), .val (.int (1 : Int32))] [(.int (1 : Int32))])) _
    refine XS.ifNo X29.here hx rfl (hb hby at_110) rfl ((if0 _ _).trans (feq hc34).1) ?_
    show Steps p.tables e below (T29.setTop (mkF m 113 #[.val (.long xr), .second, .val (.long xc), .second, .val (.long xp), .second, .val (.long xk), .second, .val (.long xw), .second, .val (.long xs), .second, .val (.ref b1), .val (.int (1 : Int32)), .val (.int (1 : Int32)), .val (.int (1 : Int32))] [])) _
    refine XS.iconst X29.here hx rfl (hb hby at_113) ?_
    show Steps p.tables e below (T29.setTop (mkF m 114 #[.val (.long xr), .second, .val (.long xc), .second, .val (.long xp), .second, .val (.long xk), .second, .val (.long xw), .second, .val (.long xs), .second, .val (.ref b1), .val (.int (1 : Int32)), .val (.int (1 : Int32)), .val (.int (1 : Int32))] [(.int (1 : Int32))])) _
    refine XS.goto X29.here hx rfl (pc0 := 114) (pc' := 118) rfl (hb hby at_114) (by decide) (by decide) ?_
    show Steps p.tables e below (T29.setTop (mkF m 118 #[.val (.long xr), .second, .val (.long xc), .second, .val (.long xp), .second, .val (.long xk), .second, .val (.long xw), .second, .val (.long xs), .second, .val (.ref b1), .val (.int (1 : Int32)), .val (.int (1 : Int32)), .val (.int (1 : Int32))] [(.int (1 : Int32))])) _
    exact kt)
  obtain ⟨fs, hr, hrun, hended, hW, hsame⟩ := X29.leave (v := (some (.int (1 : Int32)))) (fun h => by rw [Bd.returns] at h; cases h)
  refine ⟨_, _, st35 _ ?_, hrun, hended, _, _, rfl, ?_, ⟨_, rfl⟩, hW, hsame.mono (by decide) (by decide)⟩
  · exact retN X29 hx (t := .boolean) Bd.returns (by simp) (hb hby at_118) hr
  · show Q_rm_law Z xr xc xp xk xw xs h0 n0 _ T29.heap _
    rw [eq29]
    exact ⟨rfl, N29⟩
set_option maxRecDepth 65536 in
set_option maxHeartbeats 40000000 in
theorem comes_1 {Post : Tables → Env → Array Value → State → Outcome → State → Prop} (hpost : ∀ tb e args s v u, (limb_1_1.after args s (.returned v) u = true ∧ limb_1_2.after args s (.returned v) u = true ∧ True) → FrameEnd s (.returned v) u (Jvm.fieldLocs frame_1_writes args s ++ Jvm.arrayLocs frame_1_arrays args s ++ Jvm.staticLocs frame_1_statics s) 16 128 → Post tb e args s (.returned v) u) :
    ArmFor flags0 classFile x code maxLocals ret World_1 tables_1 room_1 Calls_1 rest_1 Pre_1 Post := by
  intro l hfl _ _ p e ha hc hk s m args below hf hA hF happ hP
  obtain ⟨hcalls, hrest, hpre⟩ := hP
  obtain ⟨-, -, -, hnamed, -, -, -, hat⟩ := (Spec.applies_iff hf).mp happ
  obtain ⟨hg, hn⟩ := and_e (Cond.before_iff.mp (show (Jvm.Cond.and given_1 narrow_1).before args s = true from hpre))
  obtain ⟨gg1, gg2⟩ := and_e hg
  obtain ⟨gg3, gg4⟩ := and_e gg2
  obtain ⟨gg5, gg6⟩ := and_e gg4
  obtain ⟨gg7, gg8⟩ := and_e gg6
  obtain ⟨gg9, gg10⟩ := and_e gg8
  obtain ⟨gg11, gg12⟩ := and_e gg10
  obtain ⟨w0, w1, w2, w3, w4, w5, rfl⟩ : ∃ w0 w1 w2 w3 w4 w5 : Value, args = #[w0, w1, w2, w3, w4, w5] := by
    have hs : args.size = 6 := by simpa [Cond.value, given_1] using gg1
    obtain ⟨L⟩ := args
    match L, hs with
    | [w0, w1, w2, w3, w4, w5], _ => exact ⟨w0, w1, w2, w3, w4, w5, rfl⟩
  have hw := fun d (hd : d ∈ tables_1) => atoms_spec (ws := Jvm.Cond.code x code maxLocals ret :: tables_1) hat d (List.mem_cons_of_mem _ hd)
  have hfit : Fit s := fun {y c} hc i hi => by
    obtain ⟨ha, rfl⟩ := Array.getElem?_eq_some_iff.mp hc
    have q := List.all_eq_true.mp ((Array.all_eq_true_iff_forall_mem.mp hF) _ (Array.getElem_mem ha)) i (List.mem_range.mpr hi)
    simpa [Array.getElem?_eq_getElem hi] using q
  obtain ⟨i0, ei0⟩ := isL_v gg3
  obtain rfl : w0 = (.long i0) := Option.some.inj ei0
  obtain ⟨i1, ei1⟩ := isL_v gg5
  obtain rfl : w1 = (.long i1) := Option.some.inj ei1
  obtain ⟨i2, ei2⟩ := isL_v gg7
  obtain rfl : w2 = (.long i2) := Option.some.inj ei2
  obtain ⟨i3, ei3⟩ := isL_v gg9
  obtain rfl : w3 = (.long i3) := Option.some.inj ei3
  obtain ⟨i4, ei4⟩ := isL_v gg11
  obtain rfl : w4 = (.long i4) := Option.some.inj ei4
  obtain ⟨i5, ei5⟩ := isL_v gg12
  obtain rfl : w5 = (.long i5) := Option.some.inj ei5
  obtain ⟨n, o, h1, h2, h3, _, L, rfl, ⟨rfl, N⟩, hq⟩ := rm_law l s _ hw tables_1 i0 i1 i2 i3 i4 i5  s.heap s.heap.size (Nat.le_refl _)  p e ha hc hk s m _ below hf ((Spec.applies_iff_loose hf).mp happ).1 ⟨rfl, State.Warmed39.refl s, rfl⟩ trivial
  refine ⟨n, _, h1, h2, h3, hpost _ _ _ _ _ _ ⟨Cond.after_iff.mpr rfl, Cond.after_iff.mpr (eq_i res_at (Term.int_eval (1)) rfl), trivial⟩ ⟨hq.1, hq.2.1, (hq.2.2.sift fun y hy => Or.inr (N y hy)).mono (by decide) (by decide)⟩⟩
theorem main_1_1 : Claimed_1_1 := comes_1 fun _ _ _ _ _ _ h hF => ⟨h.1, hF⟩
theorem main_1_2 : Claimed_1_2 := comes_1 fun _ _ _ _ _ _ h hF => ⟨h.2.1, hF⟩
end Jvm.Pilot.@@N@@
namespace Jvm.Pilot.@@N@@
open Jvm Jvm.ClassFile Sem Op Lib Jvm.Free Jvm.Stand Jvm.Pilot.@@N@@.Jvm.D
/-! MADE BY PROGRAM (witnessworld.py) out of the Statement's table words and the real class files: 10 classes; the members and pool entries that the words name. The judged class is class 1, her method 1. -/
namespace start1
open Jvm.ClassFile
def u (s : String) : CpInfo := .utf8 (stringToUtf16 s)
/-- a pool by its gaps: so many unusable entries, then the entry; so many at the end -/
def gap : Nat → List CpInfo → List CpInfo
  | 0, r => r
  | n + 1, r => .unusable :: gap n r
def poolList (es : List (Nat × CpInfo)) (last : Nat) : List CpInfo := es.foldr (fun e r => gap e.1 (e.2 :: r)) (gap last [])
def pool (es : List (Nat × CpInfo)) (last : Nat) : Array CpInfo := ⟨poolList es last⟩
def fileOf (pool : Array CpInfo) (this : Nat) (attrs : Array Attribute := #[]) (ms : Array MethodInfo := #[]) (fl : Nat := 33) (sup : Nat := 0) (ifs : Array Nat := #[]) (fds : Array FieldInfo := #[]) : ClassFile where
  minorVersion := 0
  majorVersion := 65
  constantPool := pool
  accessFlags := fl
  thisClass := this
  superClass := sup
  interfaces := ifs
  fields := fds
  methods := ms
  attributes := attrs
def plain (name : String) (sup : Option ClassId) : Class where
  name := name
  kind := .ordinary
  loader := none
  accessFlags := 33
  super := sup
  interfaces := #[]
  cf := none
  fields := #[]
  methods := #[]
  instanceTypes := #[]
  staticTypes := #[]
  resolved := #[]
  callSites := []
  init := .initialized
  statics := none
  mirror := none

def pool0 : Array CpInfo := pool [(5, u "<init>"), (0, u "()V"), (1, .class_ 10), (1, u "java/lang/Object")] 113

def k0c0 : Code := { maxStack := 0, maxLocals := 1, code := object_method_1_code, exceptionTable := #[], attributes := #[] }
def k0m0 : Method := { name := "<init>", desc := "()V", sig := { parameters := [], returnType := none }, accessFlags := 1, code := some k0c0 }
/-- java/lang/Object -/
def k0 : Class := { plain "java/lang/Object" none with
  accessFlags := 33
  interfaces := #[]
  cf := some (fileOf pool0 8 #[] #[{ accessFlags := 1, nameIndex := 5, descriptorIndex := 6, attributes := #[] }] 33 0 #[] #[])
  fields := #[]
  methods := #[k0m0]
  instanceTypes := #[]
  staticTypes := #[]
  resolved := Array.replicate 124 none
  statics := none }

def pool1 : Array CpInfo := pool [(2, .class_ 4), (1, u "java/lang/Object"), (0, u "<init>"), (0, u "()V"), (0, .class_ 8), (0, u "com/example/pactum/pactum/replay/Checkpoints$Plan"), (0, .methodref 7 10), (0, .nameAndType 5 11), (0, u "(JJJJ)V"), (0, .methodref 7 13), (0, .nameAndType 14 15), (0, u "length"), (0, u "(J)J"), (0, .class_ 17), (0, u "com/example/pactum/pactum/replay/PlanLengthPinLaw"), (2, u "law"), (0, u "(JJJJJJ)Z")] 7

def k1m0 : Method := { name := "<init>", desc := "()V", sig := { parameters := [], returnType := none }, accessFlags := 1, code := none }
def k1c1 : Code := { maxStack := 10, maxLocals := 16, code := code, exceptionTable := #[], attributes := #[] }
def k1m1 : Method := { name := "law", desc := "(JJJJJJ)Z", sig := { parameters := [.long, .long, .long, .long, .long, .long], returnType := some .boolean }, accessFlags := 9, code := some k1c1 }
/-- com/example/pactum/pactum/replay/PlanLengthPinLaw -/
def k1 : Class := { plain "com/example/pactum/pactum/replay/PlanLengthPinLaw" (some 0) with
  accessFlags := 49
  interfaces := #[]
  cf := some (fileOf pool1 16 #[] #[{ accessFlags := 1, nameIndex := 5, descriptorIndex := 6, attributes := #[] }, { accessFlags := 9, nameIndex := 20, descriptorIndex := 21, attributes := #[] }] 49 2 #[] #[])
  fields := #[]
  methods := #[k1m0, k1m1]
  instanceTypes := #[]
  staticTypes := #[]
  resolved := Array.replicate 29 none
  statics := none }

def pool2 : Array CpInfo := pool [(1, .methodref 2 3), (0, .class_ 4), (0, .nameAndType 5 6), (0, u "java/lang/Object"), (0, u "<init>"), (0, u "()V"), (0, .class_ 8), (0, u "java/lang/Record")] 13

def k2c0 : Code := { maxStack := 1, maxLocals := 1, code := jdk_30_method_1_code, exceptionTable := #[], attributes := #[] }
def k2m0 : Method := { name := "<init>", desc := "()V", sig := { parameters := [], returnType := none }, accessFlags := 4, code := some k2c0 }
/-- java/lang/Record -/
def k2 : Class := { plain "java/lang/Record" (some 0) with
  accessFlags := 1057
  interfaces := #[]
  cf := some (fileOf pool2 7 #[] #[{ accessFlags := 4, nameIndex := 5, descriptorIndex := 6, attributes := #[] }] 1057 2 #[] #[])
  fields := #[]
  methods := #[k2m0]
  instanceTypes := #[]
  staticTypes := #[]
  resolved := Array.replicate 22 none
  statics := none }

def pool3 : Array CpInfo := pool [(1, .methodref 2 3), (0, .class_ 4), (0, .nameAndType 5 6), (0, u "java/lang/Record"), (0, u "<init>"), (0, u "()V"), (0, .fieldref 8 9), (0, .class_ 10), (0, .nameAndType 11 12), (0, u "com/example/pactum/pactum/replay/Checkpoints$Plan"), (0, u "runTime"), (0, u "J"), (0, .fieldref 8 14), (0, .nameAndType 15 12), (0, u "checkpoints"), (0, .fieldref 8 17), (0, .nameAndType 18 12), (0, u "part"), (0, .fieldref 8 20), (0, .nameAndType 21 12), (0, u "cost"), (21, u "(JJJJ)V"), (3, u "length"), (0, u "(J)J"), (11, .class_ 61), (0, u "com/example/pactum/pactum/replay/Checkpoints")] 22

def k3c0 : Code := { maxStack := 3, maxLocals := 9, code := prog_142_method_1_code, exceptionTable := #[], attributes := #[] }
def k3m0 : Method := { name := "<init>", desc := "(JJJJ)V", sig := { parameters := [.long, .long, .long, .long], returnType := none }, accessFlags := 0, code := some k3c0 }
def k3c1 : Code := { maxStack := 6, maxLocals := 3, code := prog_142_method_2_code, exceptionTable := #[], attributes := #[] }
def k3m1 : Method := { name := "length", desc := "(J)J", sig := { parameters := [.long], returnType := some .long }, accessFlags := 0, code := some k3c1 }
/-- com/example/pactum/pactum/replay/Checkpoints$Plan -/
def k3 : Class := { plain "com/example/pactum/pactum/replay/Checkpoints$Plan" (some 2) with
  accessFlags := 48
  interfaces := #[]
  cf := some (fileOf pool3 8 #[.nestHost 60] #[{ accessFlags := 0, nameIndex := 5, descriptorIndex := 43, attributes := #[] }, { accessFlags := 0, nameIndex := 47, descriptorIndex := 48, attributes := #[] }] 48 2 #[] #[{ accessFlags := 18, nameIndex := 11, descriptorIndex := 12, attributes := #[] }, { accessFlags := 18, nameIndex := 15, descriptorIndex := 12, attributes := #[] }, { accessFlags := 18, nameIndex := 18, descriptorIndex := 12, attributes := #[] }, { accessFlags := 18, nameIndex := 21, descriptorIndex := 12, attributes := #[] }])
  fields := #[{ name := "runTime", type := .long, accessFlags := 18, slot := 0, constantValue := 0 }, { name := "checkpoints", type := .long, accessFlags := 18, slot := 1, constantValue := 0 }, { name := "part", type := .long, accessFlags := 18, slot := 2, constantValue := 0 }, { name := "cost", type := .long, accessFlags := 18, slot := 3, constantValue := 0 }]
  methods := #[k3m0, k3m1]
  instanceTypes := #[.long, .long, .long, .long]
  staticTypes := #[]
  resolved := Array.replicate 84 none
  statics := none }

def pool4 : Array CpInfo := pool [(1, u "java/lang/Cloneable"), (0, .class_ 1), (0, u "java/lang/Object"), (0, .class_ 3)] 3

/-- java/lang/Cloneable -/
def k4 : Class := { plain "java/lang/Cloneable" (some 0) with
  accessFlags := 1537
  interfaces := #[]
  cf := some (fileOf pool4 2 #[] #[] 1537 4 #[] #[])
  fields := #[]
  methods := #[]
  instanceTypes := #[]
  staticTypes := #[]
  resolved := Array.replicate 8 none
  statics := none }

def pool5 : Array CpInfo := pool [(1, u "java/io/Serializable"), (0, .class_ 1), (0, u "java/lang/Object"), (0, .class_ 3)] 3

/-- java/io/Serializable -/
def k5 : Class := { plain "java/io/Serializable" (some 0) with
  accessFlags := 1537
  interfaces := #[]
  cf := some (fileOf pool5 2 #[] #[] 1537 4 #[] #[])
  fields := #[]
  methods := #[]
  instanceTypes := #[]
  staticTypes := #[]
  resolved := Array.replicate 8 none
  statics := none }

/-- the primitive byte -/
def k6 : Class := { plain "byte" none with kind := .primitive 'B', accessFlags := 0x411 }
/-- [B -/
def k7 : Class := { plain "[B" (some 0) with kind := .array 6 .byte, interfaces := #[4, 5], accessFlags := 1041 }

/-- the primitive int -/
def k8 : Class := { plain "int" none with kind := .primitive 'I', accessFlags := 0x411 }
/-- [I -/
def k9 : Class := { plain "[I" (some 0) with kind := .array 8 .int, interfaces := #[4, 5], accessFlags := 1041 }

def heap : Heap := #[]
def classes : Array Class := #[k0, k1, k2, k3, k4, k5, k6, k7, k8, k9]
def interned : List (Array UInt16 × Addr) := []
def slotsUsed : Nat := 0
def theMethod : MethodId := ⟨1, 1⟩
def args0 : Array Value := #[.long 5, .long 5, .long 5, .long 5, .long 5, .long 5]
def aboutOver (below : List Frame) : State where
  vm := { classes := classes, interned := interned.toArray }
  heap := heap
  slotsUsed := slotsUsed
  threads := #[{ frames := .invoking theMethod args0 :: below }]
def below0 : List Frame := [.native { method := ⟨0, 0⟩, args := #[] }]
def about1 : State := aboutOver below0
def p0 : Program := .bare "" "" ""
def e0 : Env := launch0.env 0 0 0
theorem w_frames : about1.frames = Frame.invoking theMethod args0 :: below0 := rfl
set_option maxRecDepth 65536 in
theorem w_args : argsFit about1.vm theMethod args0 = true := by decide +kernel
set_option maxRecDepth 65536 in
theorem w_heap : heapFits about1 = true := by decide +kernel
set_option maxRecDepth 65536 in
theorem w_runnable : about1.curStatus? = some .runnable := by decide +kernel
set_option maxRecDepth 65536 in
theorem w_alone : about1.alone = true := by decide +kernel
set_option maxRecDepth 65536 in
theorem w_named : about1.methodNamed? x = some theMethod := by decide +kernel
set_option maxRecDepth 65536 in
theorem w_hears : about1.hears theMethod below0 = true := by decide +kernel
set_option maxRecDepth 65536 in
theorem w_ripe : about1.ripe theMethod args0 below0 = true := by decide +kernel
theorem w_running : about1.status = .running := rfl
set_option maxRecDepth 65536 in
theorem w_room : about1.hasRoom e0.platform room_1 = true :=
  launch0.hasRoom_least _ room_1 (by decide +kernel) (by decide +kernel) (by decide +kernel) (by decide +kernel) (by decide +kernel) (by decide +kernel)
theorem allAtoms_all (ts : List Jvm.Cond) (a : Array Jvm.Value) (st : Jvm.State) : (allAtoms ts).before a st = ts.all (fun c => c.before a st) := by
  induction ts with
  | nil => rfl
  | cons c t ih =>
    show (Jvm.Cond.and c (allAtoms t)).before a st = _
    rw [Jvm.Cond.before_and, ih, List.all_cons]
def words1 : List Jvm.Cond := Jvm.Cond.code x code maxLocals ret :: tables_1
/-- a 'code' word, met by the world's own term for the bytes: nothing is compared byte by byte -/
theorem code_word {y : MethodName} {bytes : ByteArray} {mx : Nat} {rt : Option FieldType} {a : Array Value} {s : State} {m : MethodId} {meth : Method} {c : Code} (h1 : s.methodNamed? y = some m) (h2 : s.vm.method? m = some meth) (h3 : meth.code = some c) (h4 : c.code = bytes)
    (h5 : (c.maxLocals == mx && c.exceptionTable.isEmpty && decide (c.maxStack ≤ mostOperands) && decide (meth.sig.returnType = rt) && !meth.locks && decide (parseMethodDescriptor y.desc = some meth.sig)) = true) : (Jvm.Cond.code y bytes mx rt).before a s = true := by
  simp only [Bool.and_eq_true, beq_iff_eq, Bool.not_eq_true', decide_eq_true_eq] at h5
  obtain ⟨⟨⟨⟨⟨g1, g2⟩, g3⟩, g4⟩, g5⟩, g6⟩ := h5
  simp [Cond.before, Cond.holds, Cond.value, h1, h2, h3, h4, g1, g2, g3, g4, g5, g6]
def isCode : Jvm.Cond → Bool
  | .code _ _ _ _ => true
  | _ => false
theorem all_split {L : List Jvm.Cond} {P : Jvm.Cond → Bool} (h1 : L.all (fun c => isCode c || P c) = true) (h2 : ∀ c ∈ L.filter isCode, P c = true) : L.all P = true := by
  refine List.all_eq_true.mpr fun c hc => ?_
  have h := List.all_eq_true.mp h1 c hc
  rcases Bool.eq_false_or_eq_true (isCode c) with hi | hi
  · exact h2 c (List.mem_filter.mpr ⟨hc, hi⟩)
  · simpa [hi] using h
set_option maxRecDepth 65536 in
theorem w_c0 : (Jvm.Cond.code x code maxLocals ret).before args0 about1 = true := code_word (m := ⟨1, 1⟩) (meth := k1m1) (c := k1c1) (by decide +kernel) rfl rfl rfl (by decide +kernel)
set_option maxRecDepth 65536 in
theorem w_c1 : (Jvm.Cond.code ({ cls := "com/example/pactum/pactum/replay/Checkpoints$Plan", name := "<init>", desc := "(JJJJ)V" } : Jvm.MethodName) prog_142_method_1_code (9 : Nat) (Option.none : Option Jvm.ClassFile.FieldType)).before args0 about1 = true := code_word (m := ⟨3, 0⟩) (meth := k3m0) (c := k3c0) (by decide +kernel) rfl rfl rfl (by decide +kernel)
set_option maxRecDepth 65536 in
theorem w_c2 : (Jvm.Cond.code ({ cls := "java/lang/Record", name := "<init>", desc := "()V" } : Jvm.MethodName) jdk_30_method_1_code (1 : Nat) (Option.none : Option Jvm.ClassFile.FieldType)).before args0 about1 = true := code_word (m := ⟨2, 0⟩) (meth := k2m0) (c := k2c0) (by decide +kernel) rfl rfl rfl (by decide +kernel)
set_option maxRecDepth 65536 in
theorem w_c3 : (Jvm.Cond.code ({ cls := "java/lang/Object", name := "<init>", desc := "()V" } : Jvm.MethodName) object_method_1_code (1 : Nat) (Option.none : Option Jvm.ClassFile.FieldType)).before args0 about1 = true := code_word (m := ⟨0, 0⟩) (meth := k0m0) (c := k0c0) (by decide +kernel) rfl rfl rfl (by decide +kernel)
set_option maxRecDepth 65536 in
theorem w_c4 : (Jvm.Cond.code ({ cls := "com/example/pactum/pactum/replay/Checkpoints$Plan", name := "length", desc := "(J)J" } : Jvm.MethodName) prog_142_method_2_code (3 : Nat) (Option.some Jvm.ClassFile.FieldType.long)).before args0 about1 = true := code_word (m := ⟨3, 1⟩) (meth := k3m1) (c := k3c1) (by decide +kernel) rfl rfl rfl (by decide +kernel)
def codes1 : List Jvm.Cond := [Jvm.Cond.code x code maxLocals ret, Jvm.Cond.code ({ cls := "com/example/pactum/pactum/replay/Checkpoints$Plan", name := "<init>", desc := "(JJJJ)V" } : Jvm.MethodName) prog_142_method_1_code (9 : Nat) (Option.none : Option Jvm.ClassFile.FieldType), Jvm.Cond.code ({ cls := "java/lang/Record", name := "<init>", desc := "()V" } : Jvm.MethodName) jdk_30_method_1_code (1 : Nat) (Option.none : Option Jvm.ClassFile.FieldType), Jvm.Cond.code ({ cls := "java/lang/Object", name := "<init>", desc := "()V" } : Jvm.MethodName) object_method_1_code (1 : Nat) (Option.none : Option Jvm.ClassFile.FieldType), Jvm.Cond.code ({ cls := "com/example/pactum/pactum/replay/Checkpoints$Plan", name := "length", desc := "(J)J" } : Jvm.MethodName) prog_142_method_2_code (3 : Nat) (Option.some Jvm.ClassFile.FieldType.long)]
set_option maxRecDepth 65536 in
theorem codes_eq : words1.filter isCode = codes1 := rfl
theorem w_codes : ∀ c ∈ words1.filter isCode, c.before args0 about1 = true := by
  rw [codes_eq]
  intro c hc
  simp only [codes1, List.mem_cons, List.not_mem_nil, or_false] at hc
  rcases hc with rfl | rfl | rfl | rfl | rfl
  · exact w_c0
  · exact w_c1
  · exact w_c2
  · exact w_c3
  · exact w_c4
set_option maxRecDepth 65536 in
theorem w_t1 : (words1.take 24).all (fun c => isCode c || c.before args0 about1) = true := by decide +kernel
set_option maxRecDepth 65536 in
theorem w_t2 : (words1.drop 24).all (fun c => isCode c || c.before args0 about1) = true := by decide +kernel
theorem w_tables : (allAtoms (Jvm.Cond.code x code maxLocals ret :: tables_1)).before args0 about1 = true := by
  rw [allAtoms_all]
  show words1.all (fun c => c.before args0 about1) = true
  refine all_split ?_ w_codes
  rw [← List.take_append_drop 24 words1, List.all_append, w_t1, w_t2]
  rfl
set_option maxRecDepth 65536 in
theorem w_case : (Jvm.Cond.and given_1 narrow_1).before args0 about1 = true := by decide +kernel
theorem w_applies : (headSpec (Jvm.Cond.code x code maxLocals ret :: tables_1) room_1).applies x e0.platform about1 = true :=
  (Spec.applies_iff w_frames).mpr ⟨w_running, w_runnable, w_alone, w_named, w_hears, w_ripe, w_room, w_tables⟩
theorem atStart : AtStart classFile x code maxLocals ret World_1 tables_1 room_1 Calls_1 rest_1 Pre_1 launch0 p0 e0 about1 theMethod args0 below0 :=
  ⟨lists_1, trivial, launch0.admits_env _ _ _, launch0.least_env, fairChoices_fair.cas, fairChoices_fair.clock, w_frames, w_args, w_heap, w_applies, trivial, trivial, w_case⟩
end start1
theorem witness_1 : WitnessClaimed_1 := ⟨start1.p0, start1.e0, start1.about1, start1.theMethod, start1.args0, start1.below0, start1.atStart⟩
end Jvm.Pilot.@@N@@
