import JvmDerived
import JvmDerived.Pilot.@@N@@Statement
import JvmDerived.Pilot.@@N@@Code
set_option linter.unusedVariables false
set_option linter.unusedSimpArgs false
namespace Jvm.Pilot.@@N@@
open Jvm Jvm.ClassFile Sem Op Lib Jvm.Free Jvm.Stand Jvm.LawKit Jvm.RoadKit Bundle Jvm.Pilot.@@N@@.Jvm.D
abbrev own_Go (p : Program) (e : Env) (below : List Frame) (A B : State) : Prop := ∀ t, Steps p.tables e below A t → Steps p.tables e below B t

theorem own_q (a : Int64) : 0 ≤ (a &&& 2147483647).toInt ∧ (a &&& 2147483647).toInt ≤ 2147483647 := by
  have h := c_maskL a 2147483647 31 (by decide) (by decide)
  have e : ((2 ^ 31 : Nat) : Int) = 2147483648 := rfl
  rw [e] at h
  omega
theorem own_r (b : Int32) : 0 ≤ ((b &&& 16383).toInt64).toInt ∧ ((b &&& 16383).toInt64).toInt ≤ 16383 := by
  have h := c_mask b 16383 14 (by decide) (by decide)
  have e : ((2 ^ 14 : Nat) : Int) = 16384 := rfl
  rw [e] at h
  rw [c_i2l]
  omega
theorem own_fin (q r d : Int64) (hr : 0 ≤ r.toInt ∧ r.toInt ≤ 16383) (hq : 0 ≤ q.toInt ∧ q.toInt ≤ 2147483647 ∧ (¬ r = 0 → q.toInt ≤ 2147483646)) (hd : (r = 0 ∧ d = 0) ∨ (¬ r = 0 ∧ d = 1)) :
    ((((((q * 16384) + r) + 16384) - 1) / 16384).toInt32).toInt64 = (q + d) := by
  have e0 : (0 : Int64).toInt = 0 := rfl
  have e1 : (1 : Int64).toInt = 1 := rfl
  have e2 : (16384 : Int64).toInt = 16384 := rfl
  have a1 := c_lmul q 16384
  have a2 := c_ladd (q * 16384) r
  have a3 := c_ladd ((q * 16384) + r) 16384
  have a4 := c_lsub (((q * 16384) + r) + 16384) 1
  have a5 := c_ldiv ((((q * 16384) + r) + 16384) - 1) 16384 16384 rfl (by decide)
  have a6 := c_l2i (((((q * 16384) + r) + 16384) - 1) / 16384)
  have a7 := c_ladd q d
  have b1 := rng64 (q * 16384)
  have b2 := rng64 ((q * 16384) + r)
  have b3 := rng64 (((q * 16384) + r) + 16384)
  have b4 := rng64 ((((q * 16384) + r) + 16384) - 1)
  have b6 := rng32 ((((((q * 16384) + r) + 16384) - 1) / 16384).toInt32)
  have b7 := rng64 (q + d)
  rw [← Int64.toInt_inj, c_i2l]
  rw [e2] at a1 a3
  rw [e1] at a4
  have hz : r = 0 ↔ r.toInt = 0 := by rw [← Int64.toInt_inj, e0]
  rw [hz] at hq hd
  have hd' : (r.toInt = 0 ∧ d.toInt = 0) ∨ (¬ r.toInt = 0 ∧ d.toInt = 1) := by
    rcases hd with ⟨x, rfl⟩ | ⟨x, rfl⟩
    · exact Or.inl ⟨x, rfl⟩
    · exact Or.inr ⟨x, rfl⟩
  clear hd hz
  generalize ((((((q * 16384) + r) + 16384) - 1) / 16384).toInt32).toInt = A6 at *
  generalize (((((q * 16384) + r) + 16384) - 1) / 16384).toInt = A5 at *
  generalize ((((q * 16384) + r) + 16384) - 1).toInt = A4 at *
  generalize (((q * 16384) + r) + 16384).toInt = A3 at *
  generalize ((q * 16384) + r).toInt = A2 at *
  generalize (q * 16384).toInt = A1 at *
  generalize (q + d).toInt = A7 at *
  generalize q.toInt = Q at *
  generalize r.toInt = R at *
  generalize d.toInt = D at *
  have c1 : A1 = Q * 16384 := by omega
  have c2 : A2 = Q * 16384 + R := by omega
  have c3 : A3 = Q * 16384 + R + 16384 := by omega
  have c4 : A4 = Q * 16384 + R + 16383 := by omega
  have c5 := a5.1 (by omega)
  have c6 : A5 = Q + D := by omega
  omega

theorem own_pn0 : plainName "com/example/ranked_text_search/rankedtextsearch/CheckedFile" = true := by first | (simp [plainName, overriddenIn]; done) | decide +kernel
theorem own_ef1_J (m : MethodId) (x0 : Int64) : entryFrame m #[(.long x0)] 2 = mkF m 0 #[.val (.long x0), .second] [] := by first | (simp [entryFrame, mkF, argsToLocals, Value.category]; done) | rfl
theorem d1_0 : decode prog_4_method_5_code 0 = .ok (.lload_n 0, 1) := by decide +kernel
theorem d1_1 : decode prog_4_method_5_code 1 = .ok (.ldc2_w 65, 3) := by decide +kernel
theorem d1_4 : decode prog_4_method_5_code 4 = .ok (.ladd, 1) := by decide +kernel
theorem d1_5 : decode prog_4_method_5_code 5 = .ok (.lconst 1, 1) := by decide +kernel
theorem d1_6 : decode prog_4_method_5_code 6 = .ok (.lsub, 1) := by decide +kernel
theorem d1_7 : decode prog_4_method_5_code 7 = .ok (.ldc2_w 65, 3) := by decide +kernel
theorem d1_10 : decode prog_4_method_5_code 10 = .ok (.ldiv, 1) := by decide +kernel
theorem d1_11 : decode prog_4_method_5_code 11 = .ok (.l2i, 1) := by decide +kernel
theorem d1_12 : decode prog_4_method_5_code 12 = .ok (.ireturn, 1) := by decide +kernel
theorem own_pn1 : plainName "com/example/ranked_text_search/rankedtextsearch/CheckedFileChunkCountPinLaw" = true := by first | (simp [plainName, overriddenIn]; done) | decide +kernel
theorem own_ef0_JI (m : MethodId) (x0 : Int64) (x1 : Int32) : entryFrame m #[(.long x0), (.int x1)] maxLocals = mkF m 0 #[.val (.long x0), .second, .val (.int x1), .unset, .unset, .unset, .unset, .unset, .unset, .unset, .unset, .unset, .unset] [] := by first | (simp [entryFrame, mkF, argsToLocals, Value.category, maxLocals]; done) | rfl
theorem own_pd0 : parseMethodDescriptor "(J)I" = some ⟨[.long], some .int⟩ := by decide +kernel
def Q_rm_ch (Z : State) (u : Int64) (h0 : Heap) (n0 : Nat) (v : Option Value) (h : Heap) (L : List Loc) : Prop := v = some (.int ((((u + 16384) - 1) / 16384).toInt32)) ∧ Fr n0 L ∧ h = h0
set_option maxRecDepth 65536 in
set_option maxHeartbeats 40000000 in
theorem rm_ch (l : Launch) (Z : State) (a0 : Array Value) (hw : ∀ d ∈ tables_1, d.before a0 Z = true) (ws : List Jvm.Cond) (u : Int64) (h0 : Heap) (n0 : Nat) (Z0 : n0 ≤ h0.size) :
    MetFree l (⟨"com/example/ranked_text_search/rankedtextsearch/CheckedFile", "chunkCount", "(J)I"⟩ : MethodName) (head1 (Jvm.Cond.code (⟨"com/example/ranked_text_search/rankedtextsearch/CheckedFile", "chunkCount", "(J)I"⟩ : MethodName) prog_4_method_5_code 2 (some .int) :: ws) ({ frames := 0, cells := 0, slots := 0, locals := 0 } : Room)) (fun a U => a = #[(.long u)] ∧ Z.Warmed39 U.vm ∧ U.heap = h0) (fun _ _ _ _ _ => True) (fun _ U o U' => ∃ v L, o = .returned v ∧ Q_rm_ch Z u h0 n0 v U'.heap L ∧ FrameEnd U o U' L ({ frames := 0, cells := 0, slots := 0, locals := 0 } : Room).cells ({ frames := 0, cells := 0, slots := 0, locals := 0 } : Room).slots) := by
  refine MetFree.of_bodySF (plainFor_of_name own_pn0) hisR ?_
  intro p e s m args below meth c s₁ Bd hml0 hP hK
  obtain ⟨rfl, hZ, hh⟩ := hP
  have hx := Bd.exec
  have hby := Bd.bytes
  have hml : c.maxLocals = 2 := hml0
  have hown : s.vm.findClass "com/example/ranked_text_search/rankedtextsearch/CheckedFile" = some m.cls := findClass_of_methodNamed Bd.named
  have hnm := (name_of_methodNamed Bd.named Bd.method).1
  have X0 : Stand p l e ({ frames := 0, cells := 0, slots := 0, locals := 0 } : Room) s m #[(.long u)] below meth c s₁ [] 0 0 := Stand.of_body Bd
  have e0 : s₁.heap = h0 := by rw [← hh, Bd.state]; rfl
  have N0 := Fr.nil n0
  have st0 : own_Go p e below (s₁.setTop (mkF m 0 #[.val (.long u), .second] [])) (s₁.setTop (entryFrame m #[(.long u)] 2)) := fun t k => castTop (own_ef1_J m u) k
  have st1 : own_Go p e below (s₁.setTop (mkF m 12 #[.val (.long u), .second] [(.int ((((u + (16384 : Int64)) - (1 : Int64)) / (16384 : Int64)).toInt32))])) (s₁.setTop (entryFrame m #[(.long u)] 2)) := fun t kt => st0 t (by
    show Steps p.tables e below (s₁.setTop (mkF m 0 #[.val (.long u), .second] [])) _
    refine XS.lloadN X0.here hx rfl (hb hby d1_0) rfl ?_
    show Steps p.tables e below (s₁.setTop (mkF m 1 #[.val (.long u), .second] [(.long u)])) _
    refine X0.ldc2Long hx hown (mvT hZ (hw _ (List.mem_of_getElem? (i := 6) rfl))) (g := (mkF m 1 #[.val (.long u), .second] [(.long u)])) rfl (hb hby d1_1) _ ?_
    show Steps p.tables e below (s₁.setTop (mkF m 4 #[.val (.long u), .second] [(.long (16384 : Int64)), (.long u)])) _
    refine XS.ladd X0.here hx rfl (hb hby d1_4) rfl ?_
    show Steps p.tables e below (s₁.setTop (mkF m 5 #[.val (.long u), .second] [(.long (u + (16384 : Int64)))])) _
    refine XS.lconst X0.here hx rfl (hb hby d1_5) ?_
    show Steps p.tables e below (s₁.setTop (mkF m 6 #[.val (.long u), .second] [(.long (1 : Int64)), (.long (u + (16384 : Int64)))])) _
    refine XS.lsub X0.here hx rfl (hb hby d1_6) rfl ?_
    show Steps p.tables e below (s₁.setTop (mkF m 7 #[.val (.long u), .second] [(.long ((u + (16384 : Int64)) - (1 : Int64)))])) _
    refine X0.ldc2Long hx hown (mvT hZ (hw _ (List.mem_of_getElem? (i := 6) rfl))) (g := (mkF m 7 #[.val (.long u), .second] [(.long ((u + (16384 : Int64)) - (1 : Int64)))])) rfl (hb hby d1_7) _ ?_
    show Steps p.tables e below (s₁.setTop (mkF m 10 #[.val (.long u), .second] [(.long (16384 : Int64)), (.long ((u + (16384 : Int64)) - (1 : Int64)))])) _
    refine XS.ldiv X0.here hx rfl (hb hby d1_10) rfl (by decide) ?_
    show Steps p.tables e below (s₁.setTop (mkF m 11 #[.val (.long u), .second] [(.long (((u + (16384 : Int64)) - (1 : Int64)) / (16384 : Int64)))])) _
    refine XS.l2i X0.here hx rfl (hb hby d1_11) rfl ?_
    show Steps p.tables e below (s₁.setTop (mkF m 12 #[.val (.long u), .second] [(.int ((((u + (16384 : Int64)) - (1 : Int64)) / (16384 : Int64)).toInt32))])) _
    exact kt)
  obtain ⟨fs, hr, hrun, hended, hW, hsame⟩ := X0.leave (v := (some (.int ((((u + (16384 : Int64)) - (1 : Int64)) / (16384 : Int64)).toInt32)))) (fun h => by rw [Bd.returns] at h; cases h)
  refine ⟨_, _, st1 _ ?_, hrun, hended, _, _, rfl, ?_, ⟨_, rfl⟩, hW, hsame.mono (by decide) (by decide)⟩
  · exact retOut X0 hx Bd.returns rfl (Or.inl ⟨rfl, Or.inl rfl, _, rfl⟩) (hb hby d1_12) hr
  · show Q_rm_ch Z u h0 n0 _ s₁.heap _
    rw [e0]
    exact ⟨rfl, N0, rfl⟩
def Q_rm_law (Z : State) (ua : Int64) (ub : Int32) (h0 : Heap) (n0 : Nat) (v : Option Value) (h : Heap) (L : List Loc) : Prop := v = some (.int 1) ∧ Fr n0 L
set_option maxRecDepth 65536 in
set_option maxHeartbeats 40000000 in
theorem rm_law (l : Launch) (Z : State) (a0 : Array Value) (hw : ∀ d ∈ tables_1, d.before a0 Z = true) (ws : List Jvm.Cond) (ua : Int64) (ub : Int32) (h0 : Heap) (n0 : Nat) (Z0 : n0 ≤ h0.size) :
    MetFree l x (head1 (Jvm.Cond.code x code maxLocals ret :: ws) room_1) (fun a U => a = #[(.long ua), (.int ub)] ∧ Z.Warmed39 U.vm ∧ U.heap = h0) (fun _ _ _ _ _ => True) (fun _ U o U' => ∃ v L, o = .returned v ∧ Q_rm_law Z ua ub h0 n0 v U'.heap L ∧ FrameEnd U o U' L room_1.cells room_1.slots) := by
  refine MetFree.of_bodySF (plainFor_of_name own_pn1) hisR ?_
  intro p e s m args below meth c s₁ Bd hml0 hP hK
  obtain ⟨rfl, hZ, hh⟩ := hP
  have hx := Bd.exec
  have hby := Bd.bytes
  have hml : c.maxLocals = 13 := hml0
  have hown : s.vm.findClass "com/example/ranked_text_search/rankedtextsearch/CheckedFileChunkCountPinLaw" = some m.cls := findClass_of_methodNamed Bd.named
  have hnm := (name_of_methodNamed Bd.named Bd.method).1
  have X0 : Stand p l e room_1 s m #[(.long ua), (.int ub)] below meth c s₁ [] 0 0 := Stand.of_body Bd
  have e0 : s₁.heap = h0 := by rw [← hh, Bd.state]; rfl
  have N0 := Fr.nil n0
  have st0 : own_Go p e below (s₁.setTop (mkF m 0 #[.val (.long ua), .second, .val (.int ub), .unset, .unset, .unset, .unset, .unset, .unset, .unset, .unset, .unset, .unset] [])) (s₁.setTop (entryFrame m #[(.long ua), (.int ub)] maxLocals)) := fun t k => castTop (own_ef0_JI m ua ub) k
  obtain ⟨q0, h_q0⟩ : ∃ z : Int64, z = (ua &&& (2147483647 : Int64)) := ⟨_, rfl⟩
  obtain ⟨md, h_md⟩ : ∃ z : Int32, z = (((ub.toUInt32 >>> ((14 : Int32) &&& 31).toUInt32).toInt32) &&& (3 : Int32)) := ⟨_, rfl⟩
  have st1 : own_Go p e below (s₁.setTop (mkF m 16 #[.val (.long ua), .second, .val (.int ub), .val (.long q0), .second, .val (.int md), .unset, .unset, .unset, .unset, .unset, .unset, .unset] [(.int md)])) (s₁.setTop (entryFrame m #[(.long ua), (.int ub)] maxLocals)) := fun t kt => st0 t (by
    show Steps p.tables e below (s₁.setTop (mkF m 0 #[.val (.long ua), .second, .val (.int ub), .unset, .unset, .unset, .unset, .unset, .unset, .unset, .unset, .unset, .unset] [])) _
    refine XS.lloadN X0.here hx rfl (hb hby at_0) rfl ?_
    show Steps p.tables e below (s₁.setTop (mkF m 1 #[.val (.long ua), .second, .val (.int ub), .unset, .unset, .unset, .unset, .unset, .unset, .unset, .unset, .unset, .unset] [(.long ua)])) _
    refine X0.ldc2Long hx hown (mvT hZ (hw _ (List.mem_of_getElem? (i := 0) rfl))) (g := (mkF m 1 #[.val (.long ua), .second, .val (.int ub), .unset, .unset, .unset, .unset, .unset, .unset, .unset, .unset, .unset, .unset] [(.long ua)])) rfl (hb hby at_1) _ ?_
    show Steps p.tables e below (s₁.setTop (mkF m 4 #[.val (.long ua), .second, .val (.int ub), .unset, .unset, .unset, .unset, .unset, .unset, .unset, .unset, .unset, .unset] [(.long (2147483647 : Int64)), (.long ua)])) _
    refine XS.land X0.here hx rfl (hb hby at_4) rfl ?_
    show Steps p.tables e below (s₁.setTop (mkF m 5 #[.val (.long ua), .second, .val (.int ub), .unset, .unset, .unset, .unset, .unset, .unset, .unset, .unset, .unset, .unset] [(.long (ua &&& (2147483647 : Int64)))])) _
    rw [← h_q0]
    show Steps p.tables e below (s₁.setTop (mkF m 5 #[.val (.long ua), .second, .val (.int ub), .unset, .unset, .unset, .unset, .unset, .unset, .unset, .unset, .unset, .unset] [(.long q0)])) _
    refine XS.lstoreN X0.here hx rfl (hb hby at_5) rfl (l' := #[.val (.long ua), .second, .val (.int ub), .val (.long q0), .second, .unset, .unset, .unset, .unset, .unset, .unset, .unset, .unset]) rfl ?_
    show Steps p.tables e below (s₁.setTop (mkF m 6 #[.val (.long ua), .second, .val (.int ub), .val (.long q0), .second, .unset, .unset, .unset, .unset, .unset, .unset, .unset, .unset] [])) _
    refine XS.iloadN X0.here hx rfl (hb hby at_6) rfl ?_
    show Steps p.tables e below (s₁.setTop (mkF m 7 #[.val (.long ua), .second, .val (.int ub), .val (.long q0), .second, .unset, .unset, .unset, .unset, .unset, .unset, .unset, .unset] [(.int ub)])) _
    refine XS.bipush X0.here hx rfl (hb hby at_7) ?_
    show Steps p.tables e below (s₁.setTop (mkF m 9 #[.val (.long ua), .second, .val (.int ub), .val (.long q0), .second, .unset, .unset, .unset, .unset, .unset, .unset, .unset, .unset] [(.int (14 : Int32)), (.int ub)])) _
    refine XS.iushr X0.here hx rfl (hb hby at_9) rfl ?_
    show Steps p.tables e below (s₁.setTop (mkF m 10 #[.val (.long ua), .second, .val (.int ub), .val (.long q0), .second, .unset, .unset, .unset, .unset, .unset, .unset, .unset, .unset] [(.int ((ub.toUInt32 >>> ((14 : Int32) &&& 31).toUInt32).toInt32))])) _
    refine XS.iconst X0.here hx rfl (hb hby at_10) ?_
    show Steps p.tables e below (s₁.setTop (mkF m 11 #[.val (.long ua), .second, .val (.int ub), .val (.long q0), .second, .unset, .unset, .unset, .unset, .unset, .unset, .unset, .unset] [(.int (3 : Int32)), (.int ((ub.toUInt32 >>> ((14 : Int32) &&& 31).toUInt32).toInt32))])) _
    refine XS.iand X0.here hx rfl (hb hby at_11) rfl ?_
    show Steps p.tables e below (s₁.setTop (mkF m 12 #[.val (.long ua), .second, .val (.int ub), .val (.long q0), .second, .unset, .unset, .unset, .unset, .unset, .unset, .unset, .unset] [(.int (((ub.toUInt32 >>> ((14 : Int32) &&& 31).toUInt32).toInt32) &&& (3 : Int32)))])) _
    rw [← h_md]
    show Steps p.tables e below (s₁.setTop (mkF m 12 #[.val (.long ua), .second, .val (.int ub), .val (.long q0), .second, .unset, .unset, .unset, .unset, .unset, .unset, .unset, .unset] [(.int md)])) _
    refine XS.istore X0.here hx rfl (hb hby at_12) rfl (l' := #[.val (.long ua), .second, .val (.int ub), .val (.long q0), .second, .val (.int md), .unset, .unset, .unset, .unset, .unset, .unset, .unset]) rfl ?_
    show Steps p.tables e below (s₁.setTop (mkF m 14 #[.val (.long ua), .second, .val (.int ub), .val (.long q0), .second, .val (.int md), .unset, .unset, .unset, .unset, .unset, .unset, .unset] [])) _
    refine XS.iload X0.here hx rfl (hb hby at_14) rfl ?_
    show Steps p.tables e below (s₁.setTop (mkF m 16 #[.val (.long ua), .second, .val (.int ub), .val (.long q0), .second, .val (.int md), .unset, .unset, .unset, .unset, .unset, .unset, .unset] [(.int md)])) _
    exact kt)
  obtain ⟨r1, hj2, st2⟩ : ∃ (r1 : Int64), (0 ≤ r1.toInt ∧ r1.toInt ≤ 16383) ∧ own_Go p e below (s₁.setTop (mkF m 59 #[.val (.long ua), .second, .val (.int ub), .val (.long q0), .second, .val (.int md), .val (.long r1), .second, .unset, .unset, .unset, .unset, .unset] [])) (s₁.setTop (entryFrame m #[(.long ua), (.int ub)] maxLocals)) := by
    by_cases q1 : md = (0 : Int32)
    · have st3 : own_Go p e below (s₁.setTop (mkF m 59 #[.val (.long ua), .second, .val (.int ub), .val (.long q0), .second, .val (.int md), .val (.long (0 : Int64)), .second, .unset, .unset, .unset, .unset, .unset] [])) (s₁.setTop (entryFrame m #[(.long ua), (.int ub)] maxLocals)) := fun t kt => st1 t (by
        show Steps p.tables e below (s₁.setTop (mkF m 16 #[.val (.long ua), .second, .val (.int ub), .val (.long q0), .second, .val (.int md), .unset, .unset, .unset, .unset, .unset, .unset, .unset] [(.int md)])) _
        refine XS.ifNo X0.here hx rfl (hb hby at_16) rfl ((if0 _ _).trans (teq q1).2) ?_
        show Steps p.tables e below (s₁.setTop (mkF m 19 #[.val (.long ua), .second, .val (.int ub), .val (.long q0), .second, .val (.int md), .unset, .unset, .unset, .unset, .unset, .unset, .unset] [])) _
        refine XS.lconst X0.here hx rfl (hb hby at_19) ?_
        show Steps p.tables e below (s₁.setTop (mkF m 20 #[.val (.long ua), .second, .val (.int ub), .val (.long q0), .second, .val (.int md), .unset, .unset, .unset, .unset, .unset, .unset, .unset] [(.long (0 : Int64))])) _
        refine XS.lstore X0.here hx rfl (hb hby at_20) rfl (l' := #[.val (.long ua), .second, .val (.int ub), .val (.long q0), .second, .val (.int md), .val (.long (0 : Int64)), .second, .unset, .unset, .unset, .unset, .unset]) rfl ?_
        show Steps p.tables e below (s₁.setTop (mkF m 22 #[.val (.long ua), .second, .val (.int ub), .val (.long q0), .second, .val (.int md), .val (.long (0 : Int64)), .second, .unset, .unset, .unset, .unset, .unset] [])) _
        refine XS.goto X0.here hx rfl (pc0 := 22) (pc' := 59) rfl (hb hby at_22) (by decide) (by decide) ?_
        show Steps p.tables e below (s₁.setTop (mkF m 59 #[.val (.long ua), .second, .val (.int ub), .val (.long q0), .second, .val (.int md), .val (.long (0 : Int64)), .second, .unset, .unset, .unset, .unset, .unset] [])) _
        exact kt)
      exact ⟨(0 : Int64), by decide, st3⟩
    · have st4 : own_Go p e below (s₁.setTop (mkF m 28 #[.val (.long ua), .second, .val (.int ub), .val (.long q0), .second, .val (.int md), .unset, .unset, .unset, .unset, .unset, .unset, .unset] [(.int (1 : Int32)), (.int md)])) (s₁.setTop (entryFrame m #[(.long ua), (.int ub)] maxLocals)) := fun t kt => st1 t (by
        show Steps p.tables e below (s₁.setTop (mkF m 16 #[.val (.long ua), .second, .val (.int ub), .val (.long q0), .second, .val (.int md), .unset, .unset, .unset, .unset, .unset, .unset, .unset] [(.int md)])) _
        refine XS.ifYes X0.here hx rfl (pc0 := 16) (pc' := 25) rfl (hb hby at_16) rfl ((if0 _ _).trans (feq q1).2) (by decide) (by decide) ?_
        show Steps p.tables e below (s₁.setTop (mkF m 25 #[.val (.long ua), .second, .val (.int ub), .val (.long q0), .second, .val (.int md), .unset, .unset, .unset, .unset, .unset, .unset, .unset] [])) _
        refine XS.iload X0.here hx rfl (hb hby at_25) rfl ?_
        show Steps p.tables e below (s₁.setTop (mkF m 27 #[.val (.long ua), .second, .val (.int ub), .val (.long q0), .second, .val (.int md), .unset, .unset, .unset, .unset, .unset, .unset, .unset] [(.int md)])) _
        refine XS.iconst X0.here hx rfl (hb hby at_27) ?_
        show Steps p.tables e below (s₁.setTop (mkF m 28 #[.val (.long ua), .second, .val (.int ub), .val (.long q0), .second, .val (.int md), .unset, .unset, .unset, .unset, .unset, .unset, .unset] [(.int (1 : Int32)), (.int md)])) _
        exact kt)
      by_cases q2 : md = (1 : Int32)
      · have st5 : own_Go p e below (s₁.setTop (mkF m 59 #[.val (.long ua), .second, .val (.int ub), .val (.long q0), .second, .val (.int md), .val (.long (1 : Int64)), .second, .unset, .unset, .unset, .unset, .unset] [])) (s₁.setTop (entryFrame m #[(.long ua), (.int ub)] maxLocals)) := fun t kt => st4 t (by
          show Steps p.tables e below (s₁.setTop (mkF m 28 #[.val (.long ua), .second, .val (.int ub), .val (.long q0), .second, .val (.int md), .unset, .unset, .unset, .unset, .unset, .unset, .unset] [(.int (1 : Int32)), (.int md)])) _
          refine XS.icmpNo X0.here hx rfl (hb hby at_28) rfl (teq q2).2 ?_
          show Steps p.tables e below (s₁.setTop (mkF m 31 #[.val (.long ua), .second, .val (.int ub), .val (.long q0), .second, .val (.int md), .unset, .unset, .unset, .unset, .unset, .unset, .unset] [])) _
          refine XS.lconst X0.here hx rfl (hb hby at_31) ?_
          show Steps p.tables e below (s₁.setTop (mkF m 32 #[.val (.long ua), .second, .val (.int ub), .val (.long q0), .second, .val (.int md), .unset, .unset, .unset, .unset, .unset, .unset, .unset] [(.long (1 : Int64))])) _
          refine XS.lstore X0.here hx rfl (hb hby at_32) rfl (l' := #[.val (.long ua), .second, .val (.int ub), .val (.long q0), .second, .val (.int md), .val (.long (1 : Int64)), .second, .unset, .unset, .unset, .unset, .unset]) rfl ?_
          show Steps p.tables e below (s₁.setTop (mkF m 34 #[.val (.long ua), .second, .val (.int ub), .val (.long q0), .second, .val (.int md), .val (.long (1 : Int64)), .second, .unset, .unset, .unset, .unset, .unset] [])) _
          refine XS.goto X0.here hx rfl (pc0 := 34) (pc' := 59) rfl (hb hby at_34) (by decide) (by decide) ?_
          show Steps p.tables e below (s₁.setTop (mkF m 59 #[.val (.long ua), .second, .val (.int ub), .val (.long q0), .second, .val (.int md), .val (.long (1 : Int64)), .second, .unset, .unset, .unset, .unset, .unset] [])) _
          exact kt)
        exact ⟨(1 : Int64), by decide, st5⟩
      · have st6 : own_Go p e below (s₁.setTop (mkF m 40 #[.val (.long ua), .second, .val (.int ub), .val (.long q0), .second, .val (.int md), .unset, .unset, .unset, .unset, .unset, .unset, .unset] [(.int (2 : Int32)), (.int md)])) (s₁.setTop (entryFrame m #[(.long ua), (.int ub)] maxLocals)) := fun t kt => st4 t (by
          show Steps p.tables e below (s₁.setTop (mkF m 28 #[.val (.long ua), .second, .val (.int ub), .val (.long q0), .second, .val (.int md), .unset, .unset, .unset, .unset, .unset, .unset, .unset] [(.int (1 : Int32)), (.int md)])) _
          refine XS.icmpYes X0.here hx rfl (pc0 := 28) (pc' := 37) rfl (hb hby at_28) rfl (feq q2).2 (by decide) (by decide) ?_
          show Steps p.tables e below (s₁.setTop (mkF m 37 #[.val (.long ua), .second, .val (.int ub), .val (.long q0), .second, .val (.int md), .unset, .unset, .unset, .unset, .unset, .unset, .unset] [])) _
          refine XS.iload X0.here hx rfl (hb hby at_37) rfl ?_
          show Steps p.tables e below (s₁.setTop (mkF m 39 #[.val (.long ua), .second, .val (.int ub), .val (.long q0), .second, .val (.int md), .unset, .unset, .unset, .unset, .unset, .unset, .unset] [(.int md)])) _
          refine XS.iconst X0.here hx rfl (hb hby at_39) ?_
          show Steps p.tables e below (s₁.setTop (mkF m 40 #[.val (.long ua), .second, .val (.int ub), .val (.long q0), .second, .val (.int md), .unset, .unset, .unset, .unset, .unset, .unset, .unset] [(.int (2 : Int32)), (.int md)])) _
          exact kt)
        by_cases q3 : md = (2 : Int32)
        · have st7 : own_Go p e below (s₁.setTop (mkF m 59 #[.val (.long ua), .second, .val (.int ub), .val (.long q0), .second, .val (.int md), .val (.long (16383 : Int64)), .second, .unset, .unset, .unset, .unset, .unset] [])) (s₁.setTop (entryFrame m #[(.long ua), (.int ub)] maxLocals)) := fun t kt => st6 t (by
            show Steps p.tables e below (s₁.setTop (mkF m 40 #[.val (.long ua), .second, .val (.int ub), .val (.long q0), .second, .val (.int md), .unset, .unset, .unset, .unset, .unset, .unset, .unset] [(.int (2 : Int32)), (.int md)])) _
            refine XS.icmpNo X0.here hx rfl (hb hby at_40) rfl (teq q3).2 ?_
            show Steps p.tables e below (s₁.setTop (mkF m 43 #[.val (.long ua), .second, .val (.int ub), .val (.long q0), .second, .val (.int md), .unset, .unset, .unset, .unset, .unset, .unset, .unset] [])) _
            refine X0.ldc2Long hx hown (mvT hZ (hw _ (List.mem_of_getElem? (i := 7) rfl))) (g := (mkF m 43 #[.val (.long ua), .second, .val (.int ub), .val (.long q0), .second, .val (.int md), .unset, .unset, .unset, .unset, .unset, .unset, .unset] [])) rfl (hb hby at_43) _ ?_
            show Steps p.tables e below (s₁.setTop (mkF m 46 #[.val (.long ua), .second, .val (.int ub), .val (.long q0), .second, .val (.int md), .unset, .unset, .unset, .unset, .unset, .unset, .unset] [(.long (16383 : Int64))])) _
            refine XS.lstore X0.here hx rfl (hb hby at_46) rfl (l' := #[.val (.long ua), .second, .val (.int ub), .val (.long q0), .second, .val (.int md), .val (.long (16383 : Int64)), .second, .unset, .unset, .unset, .unset, .unset]) rfl ?_
            show Steps p.tables e below (s₁.setTop (mkF m 48 #[.val (.long ua), .second, .val (.int ub), .val (.long q0), .second, .val (.int md), .val (.long (16383 : Int64)), .second, .unset, .unset, .unset, .unset, .unset] [])) _
            refine XS.goto X0.here hx rfl (pc0 := 48) (pc' := 59) rfl (hb hby at_48) (by decide) (by decide) ?_
            show Steps p.tables e below (s₁.setTop (mkF m 59 #[.val (.long ua), .second, .val (.int ub), .val (.long q0), .second, .val (.int md), .val (.long (16383 : Int64)), .second, .unset, .unset, .unset, .unset, .unset] [])) _
            exact kt)
          exact ⟨(16383 : Int64), by decide, st7⟩
        · have st8 : own_Go p e below (s₁.setTop (mkF m 59 #[.val (.long ua), .second, .val (.int ub), .val (.long q0), .second, .val (.int md), .val (.long ((ub &&& (16383 : Int32)).toInt64)), .second, .unset, .unset, .unset, .unset, .unset] [])) (s₁.setTop (entryFrame m #[(.long ua), (.int ub)] maxLocals)) := fun t kt => st6 t (by
            show Steps p.tables e below (s₁.setTop (mkF m 40 #[.val (.long ua), .second, .val (.int ub), .val (.long q0), .second, .val (.int md), .unset, .unset, .unset, .unset, .unset, .unset, .unset] [(.int (2 : Int32)), (.int md)])) _
            refine XS.icmpYes X0.here hx rfl (pc0 := 40) (pc' := 51) rfl (hb hby at_40) rfl (feq q3).2 (by decide) (by decide) ?_
            show Steps p.tables e below (s₁.setTop (mkF m 51 #[.val (.long ua), .second, .val (.int ub), .val (.long q0), .second, .val (.int md), .unset, .unset, .unset, .unset, .unset, .unset, .unset] [])) _
            refine XS.iloadN X0.here hx rfl (hb hby at_51) rfl ?_
            show Steps p.tables e below (s₁.setTop (mkF m 52 #[.val (.long ua), .second, .val (.int ub), .val (.long q0), .second, .val (.int md), .unset, .unset, .unset, .unset, .unset, .unset, .unset] [(.int ub)])) _
            refine XS.sipush X0.here hx rfl (hb hby at_52) ?_
            show Steps p.tables e below (s₁.setTop (mkF m 55 #[.val (.long ua), .second, .val (.int ub), .val (.long q0), .second, .val (.int md), .unset, .unset, .unset, .unset, .unset, .unset, .unset] [(.int (16383 : Int32)), (.int ub)])) _
            refine XS.iand X0.here hx rfl (hb hby at_55) rfl ?_
            show Steps p.tables e below (s₁.setTop (mkF m 56 #[.val (.long ua), .second, .val (.int ub), .val (.long q0), .second, .val (.int md), .unset, .unset, .unset, .unset, .unset, .unset, .unset] [(.int (ub &&& (16383 : Int32)))])) _
            refine XS.i2l X0.here hx rfl (hb hby at_56) rfl ?_
            show Steps p.tables e below (s₁.setTop (mkF m 57 #[.val (.long ua), .second, .val (.int ub), .val (.long q0), .second, .val (.int md), .unset, .unset, .unset, .unset, .unset, .unset, .unset] [(.long ((ub &&& (16383 : Int32)).toInt64))])) _
            refine XS.lstore X0.here hx rfl (hb hby at_57) rfl (l' := #[.val (.long ua), .second, .val (.int ub), .val (.long q0), .second, .val (.int md), .val (.long ((ub &&& (16383 : Int32)).toInt64)), .second, .unset, .unset, .unset, .unset, .unset]) rfl ?_
            show Steps p.tables e below (s₁.setTop (mkF m 59 #[.val (.long ua), .second, .val (.int ub), .val (.long q0), .second, .val (.int md), .val (.long ((ub &&& (16383 : Int32)).toInt64)), .second, .unset, .unset, .unset, .unset, .unset] [])) _
            exact kt)
          exact ⟨((ub &&& 16383).toInt64), own_r ub, st8⟩
  have hq0 := own_q ua
  rw [← h_q0] at hq0
  have st9 : own_Go p e below (s₁.setTop (mkF m 63 #[.val (.long ua), .second, .val (.int ub), .val (.long q0), .second, .val (.int md), .val (.long r1), .second, .unset, .unset, .unset, .unset, .unset] [(.int (lcmpW r1 (0 : Int64)))])) (s₁.setTop (entryFrame m #[(.long ua), (.int ub)] maxLocals)) := fun t kt => st2 t (by
    show Steps p.tables e below (s₁.setTop (mkF m 59 #[.val (.long ua), .second, .val (.int ub), .val (.long q0), .second, .val (.int md), .val (.long r1), .second, .unset, .unset, .unset, .unset, .unset] [])) _
    refine XS.lload X0.here hx rfl (hb hby at_59) rfl ?_
    show Steps p.tables e below (s₁.setTop (mkF m 61 #[.val (.long ua), .second, .val (.int ub), .val (.long q0), .second, .val (.int md), .val (.long r1), .second, .unset, .unset, .unset, .unset, .unset] [(.long r1)])) _
    refine XS.lconst X0.here hx rfl (hb hby at_61) ?_
    show Steps p.tables e below (s₁.setTop (mkF m 62 #[.val (.long ua), .second, .val (.int ub), .val (.long q0), .second, .val (.int md), .val (.long r1), .second, .unset, .unset, .unset, .unset, .unset] [(.long (0 : Int64)), (.long r1)])) _
    refine XS.lcmp X0.here hx rfl (hb hby at_62) rfl ?_
    show Steps p.tables e below (s₁.setTop (mkF m 63 #[.val (.long ua), .second, .val (.int ub), .val (.long q0), .second, .val (.int md), .val (.long r1), .second, .unset, .unset, .unset, .unset, .unset] [(.int (lcmpW r1 (0 : Int64)))])) _
    exact kt)
  obtain ⟨q1, hj10, st10⟩ : ∃ (q1 : Int64), (0 ≤ q1.toInt ∧ q1.toInt ≤ 2147483647 ∧ (¬ r1 = 0 → q1.toInt ≤ 2147483646)) ∧ own_Go p e below (s₁.setTop (mkF m 78 #[.val (.long ua), .second, .val (.int ub), .val (.long q1), .second, .val (.int md), .val (.long r1), .second, .unset, .unset, .unset, .unset, .unset] [])) (s₁.setTop (entryFrame m #[(.long ua), (.int ub)] maxLocals)) := by
    by_cases q2 : r1 = (0 : Int64)
    · have st11 : own_Go p e below (s₁.setTop (mkF m 78 #[.val (.long ua), .second, .val (.int ub), .val (.long q0), .second, .val (.int md), .val (.long r1), .second, .unset, .unset, .unset, .unset, .unset] [])) (s₁.setTop (entryFrame m #[(.long ua), (.int ub)] maxLocals)) := fun t kt => st9 t (by
        show Steps p.tables e below (s₁.setTop (mkF m 63 #[.val (.long ua), .second, .val (.int ub), .val (.long q0), .second, .val (.int md), .val (.long r1), .second, .unset, .unset, .unset, .unset, .unset] [(.int (lcmpW r1 (0 : Int64)))])) _
        refine XS.ifYes X0.here hx rfl (pc0 := 63) (pc' := 78) rfl (hb hby at_63) rfl ((if0 _ _).trans (teq ((lw_eq _ _).mpr q2)).1) (by decide) (by decide) ?_
        show Steps p.tables e below (s₁.setTop (mkF m 78 #[.val (.long ua), .second, .val (.int ub), .val (.long q0), .second, .val (.int md), .val (.long r1), .second, .unset, .unset, .unset, .unset, .unset] [])) _
        exact kt)
      exact ⟨q0, ⟨hq0.1, hq0.2, fun z => absurd q2 z⟩, st11⟩
    · have st12 : own_Go p e below (s₁.setTop (mkF m 71 #[.val (.long ua), .second, .val (.int ub), .val (.long q0), .second, .val (.int md), .val (.long r1), .second, .unset, .unset, .unset, .unset, .unset] [(.int (lcmpW q0 (2147483647 : Int64)))])) (s₁.setTop (entryFrame m #[(.long ua), (.int ub)] maxLocals)) := fun t kt => st9 t (by
        show Steps p.tables e below (s₁.setTop (mkF m 63 #[.val (.long ua), .second, .val (.int ub), .val (.long q0), .second, .val (.int md), .val (.long r1), .second, .unset, .unset, .unset, .unset, .unset] [(.int (lcmpW r1 (0 : Int64)))])) _
        refine XS.ifNo X0.here hx rfl (hb hby at_63) rfl ((if0 _ _).trans (feq (fun q => q2 ((lw_eq _ _).mp q))).1) ?_
        show Steps p.tables e below (s₁.setTop (mkF m 66 #[.val (.long ua), .second, .val (.int ub), .val (.long q0), .second, .val (.int md), .val (.long r1), .second, .unset, .unset, .unset, .unset, .unset] [])) _
        refine XS.lloadN X0.here hx rfl (hb hby at_66) rfl ?_
        show Steps p.tables e below (s₁.setTop (mkF m 67 #[.val (.long ua), .second, .val (.int ub), .val (.long q0), .second, .val (.int md), .val (.long r1), .second, .unset, .unset, .unset, .unset, .unset] [(.long q0)])) _
        refine X0.ldc2Long hx hown (mvT hZ (hw _ (List.mem_of_getElem? (i := 0) rfl))) (g := (mkF m 67 #[.val (.long ua), .second, .val (.int ub), .val (.long q0), .second, .val (.int md), .val (.long r1), .second, .unset, .unset, .unset, .unset, .unset] [(.long q0)])) rfl (hb hby at_67) _ ?_
        show Steps p.tables e below (s₁.setTop (mkF m 70 #[.val (.long ua), .second, .val (.int ub), .val (.long q0), .second, .val (.int md), .val (.long r1), .second, .unset, .unset, .unset, .unset, .unset] [(.long (2147483647 : Int64)), (.long q0)])) _
        refine XS.lcmp X0.here hx rfl (hb hby at_70) rfl ?_
        show Steps p.tables e below (s₁.setTop (mkF m 71 #[.val (.long ua), .second, .val (.int ub), .val (.long q0), .second, .val (.int md), .val (.long r1), .second, .unset, .unset, .unset, .unset, .unset] [(.int (lcmpW q0 (2147483647 : Int64)))])) _
        exact kt)
      by_cases q3 : q0 = (2147483647 : Int64)
      · have st13 : own_Go p e below (s₁.setTop (mkF m 78 #[.val (.long ua), .second, .val (.int ub), .val (.long (q0 - (1 : Int64))), .second, .val (.int md), .val (.long r1), .second, .unset, .unset, .unset, .unset, .unset] [])) (s₁.setTop (entryFrame m #[(.long ua), (.int ub)] maxLocals)) := fun t kt => st12 t (by
          show Steps p.tables e below (s₁.setTop (mkF m 71 #[.val (.long ua), .second, .val (.int ub), .val (.long q0), .second, .val (.int md), .val (.long r1), .second, .unset, .unset, .unset, .unset, .unset] [(.int (lcmpW q0 (2147483647 : Int64)))])) _
          refine XS.ifNo X0.here hx rfl (hb hby at_71) rfl ((if0 _ _).trans (teq ((lw_eq _ _).mpr q3)).2) ?_
          show Steps p.tables e below (s₁.setTop (mkF m 74 #[.val (.long ua), .second, .val (.int ub), .val (.long q0), .second, .val (.int md), .val (.long r1), .second, .unset, .unset, .unset, .unset, .unset] [])) _
          refine XS.lloadN X0.here hx rfl (hb hby at_74) rfl ?_
          show Steps p.tables e below (s₁.setTop (mkF m 75 #[.val (.long ua), .second, .val (.int ub), .val (.long q0), .second, .val (.int md), .val (.long r1), .second, .unset, .unset, .unset, .unset, .unset] [(.long q0)])) _
          refine XS.lconst X0.here hx rfl (hb hby at_75) ?_
          show Steps p.tables e below (s₁.setTop (mkF m 76 #[.val (.long ua), .second, .val (.int ub), .val (.long q0), .second, .val (.int md), .val (.long r1), .second, .unset, .unset, .unset, .unset, .unset] [(.long (1 : Int64)), (.long q0)])) _
          refine XS.lsub X0.here hx rfl (hb hby at_76) rfl ?_
          show Steps p.tables e below (s₁.setTop (mkF m 77 #[.val (.long ua), .second, .val (.int ub), .val (.long q0), .second, .val (.int md), .val (.long r1), .second, .unset, .unset, .unset, .unset, .unset] [(.long (q0 - (1 : Int64)))])) _
          refine XS.lstoreN X0.here hx rfl (hb hby at_77) rfl (l' := #[.val (.long ua), .second, .val (.int ub), .val (.long (q0 - (1 : Int64))), .second, .val (.int md), .val (.long r1), .second, .unset, .unset, .unset, .unset, .unset]) rfl ?_
          show Steps p.tables e below (s₁.setTop (mkF m 78 #[.val (.long ua), .second, .val (.int ub), .val (.long (q0 - (1 : Int64))), .second, .val (.int md), .val (.long r1), .second, .unset, .unset, .unset, .unset, .unset] [])) _
          exact kt)
        exact ⟨(q0 - (1 : Int64)), by
          have e := c_lsub q0 1
          have e1 : (1 : Int64).toInt = 1 := rfl
          have e2 : q0.toInt = 2147483647 := by rw [q3]; rfl
          have r := rng64 (q0 - 1)
          rw [e1] at e
          omega, st13⟩
      · have st14 : own_Go p e below (s₁.setTop (mkF m 78 #[.val (.long ua), .second, .val (.int ub), .val (.long q0), .second, .val (.int md), .val (.long r1), .second, .unset, .unset, .unset, .unset, .unset] [])) (s₁.setTop (entryFrame m #[(.long ua), (.int ub)] maxLocals)) := fun t kt => st12 t (by
          show Steps p.tables e below (s₁.setTop (mkF m 71 #[.val (.long ua), .second, .val (.int ub), .val (.long q0), .second, .val (.int md), .val (.long r1), .second, .unset, .unset, .unset, .unset, .unset] [(.int (lcmpW q0 (2147483647 : Int64)))])) _
          refine XS.ifYes X0.here hx rfl (pc0 := 71) (pc' := 78) rfl (hb hby at_71) rfl ((if0 _ _).trans (feq (fun q => q3 ((lw_eq _ _).mp q))).2) (by decide) (by decide) ?_
          show Steps p.tables e below (s₁.setTop (mkF m 78 #[.val (.long ua), .second, .val (.int ub), .val (.long q0), .second, .val (.int md), .val (.long r1), .second, .unset, .unset, .unset, .unset, .unset] [])) _
          exact kt)
        exact ⟨q0, ⟨hq0.1, hq0.2, fun _ => by
          have e1 : (2147483647 : Int64).toInt = 2147483647 := rfl
          have e2 : ¬ q0.toInt = 2147483647 := fun z => q3 (Int64.toInt_inj.mp (z.trans e1.symm))
          omega⟩, st14⟩
  have st15 : own_Go p e below (s₁.setTop (mkF m 93 #[.val (.long ua), .second, .val (.int ub), .val (.long q1), .second, .val (.int md), .val (.long r1), .second, .val (.long ((q1 * (16384 : Int64)) + r1)), .second, .unset, .unset, .unset] [(.int (lcmpW r1 (0 : Int64))), (.long q1)])) (s₁.setTop (entryFrame m #[(.long ua), (.int ub)] maxLocals)) := fun t kt => st10 t (by
    show Steps p.tables e below (s₁.setTop (mkF m 78 #[.val (.long ua), .second, .val (.int ub), .val (.long q1), .second, .val (.int md), .val (.long r1), .second, .unset, .unset, .unset, .unset, .unset] [])) _
    refine XS.lloadN X0.here hx rfl (hb hby at_78) rfl ?_
    show Steps p.tables e below (s₁.setTop (mkF m 79 #[.val (.long ua), .second, .val (.int ub), .val (.long q1), .second, .val (.int md), .val (.long r1), .second, .unset, .unset, .unset, .unset, .unset] [(.long q1)])) _
    refine X0.ldc2Long hx hown (mvT hZ (hw _ (List.mem_of_getElem? (i := 1) rfl))) (g := (mkF m 79 #[.val (.long ua), .second, .val (.int ub), .val (.long q1), .second, .val (.int md), .val (.long r1), .second, .unset, .unset, .unset, .unset, .unset] [(.long q1)])) rfl (hb hby at_79) _ ?_
    show Steps p.tables e below (s₁.setTop (mkF m 82 #[.val (.long ua), .second, .val (.int ub), .val (.long q1), .second, .val (.int md), .val (.long r1), .second, .unset, .unset, .unset, .unset, .unset] [(.long (16384 : Int64)), (.long q1)])) _
    refine XS.lmul X0.here hx rfl (hb hby at_82) rfl ?_
    show Steps p.tables e below (s₁.setTop (mkF m 83 #[.val (.long ua), .second, .val (.int ub), .val (.long q1), .second, .val (.int md), .val (.long r1), .second, .unset, .unset, .unset, .unset, .unset] [(.long (q1 * (16384 : Int64)))])) _
    refine XS.lload X0.here hx rfl (hb hby at_83) rfl ?_
    show Steps p.tables e below (s₁.setTop (mkF m 85 #[.val (.long ua), .second, .val (.int ub), .val (.long q1), .second, .val (.int md), .val (.long r1), .second, .unset, .unset, .unset, .unset, .unset] [(.long r1), (.long (q1 * (16384 : Int64)))])) _
    refine XS.ladd X0.here hx rfl (hb hby at_85) rfl ?_
    show Steps p.tables e below (s₁.setTop (mkF m 86 #[.val (.long ua), .second, .val (.int ub), .val (.long q1), .second, .val (.int md), .val (.long r1), .second, .unset, .unset, .unset, .unset, .unset] [(.long ((q1 * (16384 : Int64)) + r1))])) _
    refine XS.lstore X0.here hx rfl (hb hby at_86) rfl (l' := #[.val (.long ua), .second, .val (.int ub), .val (.long q1), .second, .val (.int md), .val (.long r1), .second, .val (.long ((q1 * (16384 : Int64)) + r1)), .second, .unset, .unset, .unset]) rfl ?_
    show Steps p.tables e below (s₁.setTop (mkF m 88 #[.val (.long ua), .second, .val (.int ub), .val (.long q1), .second, .val (.int md), .val (.long r1), .second, .val (.long ((q1 * (16384 : Int64)) + r1)), .second, .unset, .unset, .unset] [])) _
    refine XS.lloadN X0.here hx rfl (hb hby at_88) rfl ?_
    show Steps p.tables e below (s₁.setTop (mkF m 89 #[.val (.long ua), .second, .val (.int ub), .val (.long q1), .second, .val (.int md), .val (.long r1), .second, .val (.long ((q1 * (16384 : Int64)) + r1)), .second, .unset, .unset, .unset] [(.long q1)])) _
    refine XS.lload X0.here hx rfl (hb hby at_89) rfl ?_
    show Steps p.tables e below (s₁.setTop (mkF m 91 #[.val (.long ua), .second, .val (.int ub), .val (.long q1), .second, .val (.int md), .val (.long r1), .second, .val (.long ((q1 * (16384 : Int64)) + r1)), .second, .unset, .unset, .unset] [(.long r1), (.long q1)])) _
    refine XS.lconst X0.here hx rfl (hb hby at_91) ?_
    show Steps p.tables e below (s₁.setTop (mkF m 92 #[.val (.long ua), .second, .val (.int ub), .val (.long q1), .second, .val (.int md), .val (.long r1), .second, .val (.long ((q1 * (16384 : Int64)) + r1)), .second, .unset, .unset, .unset] [(.long (0 : Int64)), (.long r1), (.long q1)])) _
    refine XS.lcmp X0.here hx rfl (hb hby at_92) rfl ?_
    show Steps p.tables e below (s₁.setTop (mkF m 93 #[.val (.long ua), .second, .val (.int ub), .val (.long q1), .second, .val (.int md), .val (.long r1), .second, .val (.long ((q1 * (16384 : Int64)) + r1)), .second, .unset, .unset, .unset] [(.int (lcmpW r1 (0 : Int64))), (.long q1)])) _
    exact kt)
  obtain ⟨d1, hj16, st16⟩ : ∃ (d1 : Int64), ((r1 = 0 ∧ d1 = 0) ∨ (¬ r1 = 0 ∧ d1 = 1)) ∧ own_Go p e below (s₁.setTop (mkF m 101 #[.val (.long ua), .second, .val (.int ub), .val (.long q1), .second, .val (.int md), .val (.long r1), .second, .val (.long ((q1 * (16384 : Int64)) + r1)), .second, .unset, .unset, .unset] [(.long d1), (.long q1)])) (s₁.setTop (entryFrame m #[(.long ua), (.int ub)] maxLocals)) := by
    by_cases q4 : r1 = (0 : Int64)
    · have st17 : own_Go p e below (s₁.setTop (mkF m 101 #[.val (.long ua), .second, .val (.int ub), .val (.long q1), .second, .val (.int md), .val (.long r1), .second, .val (.long ((q1 * (16384 : Int64)) + r1)), .second, .unset, .unset, .unset] [(.long (0 : Int64)), (.long q1)])) (s₁.setTop (entryFrame m #[(.long ua), (.int ub)] maxLocals)) := fun t kt => st15 t (by
        show Steps p.tables e below (s₁.setTop (mkF m 93 #[.val (.long ua), .second, .val (.int ub), .val (.long q1), .second, .val (.int md), .val (.long r1), .second, .val (.long ((q1 * (16384 : Int64)) + r1)), .second, .unset, .unset, .unset] [(.int (lcmpW r1 (0 : Int64))), (.long q1)])) _
        refine XS.ifYes X0.here hx rfl (pc0 := 93) (pc' := 100) rfl (hb hby at_93) rfl ((if0 _ _).trans (teq ((lw_eq _ _).mpr q4)).1) (by decide) (by decide) ?_
        show Steps p.tables e below (s₁.setTop (mkF m 100 #[.val (.long ua), .second, .val (.int ub), .val (.long q1), .second, .val (.int md), .val (.long r1), .second, .val (.long ((q1 * (16384 : Int64)) + r1)), .second, .unset, .unset, .unset] [(.long q1)])) _
        refine XS.lconst X0.here hx rfl (hb hby at_100) ?_
        show Steps p.tables e below (s₁.setTop (mkF m 101 #[.val (.long ua), .second, .val (.int ub), .val (.long q1), .second, .val (.int md), .val (.long r1), .second, .val (.long ((q1 * (16384 : Int64)) + r1)), .second, .unset, .unset, .unset] [(.long (0 : Int64)), (.long q1)])) _
        exact kt)
      exact ⟨(0 : Int64), Or.inl ⟨q4, rfl⟩, st17⟩
    · have st18 : own_Go p e below (s₁.setTop (mkF m 101 #[.val (.long ua), .second, .val (.int ub), .val (.long q1), .second, .val (.int md), .val (.long r1), .second, .val (.long ((q1 * (16384 : Int64)) + r1)), .second, .unset, .unset, .unset] [(.long (1 : Int64)), (.long q1)])) (s₁.setTop (entryFrame m #[(.long ua), (.int ub)] maxLocals)) := fun t kt => st15 t (by
        show Steps p.tables e below (s₁.setTop (mkF m 93 #[.val (.long ua), .second, .val (.int ub), .val (.long q1), .second, .val (.int md), .val (.long r1), .second, .val (.long ((q1 * (16384 : Int64)) + r1)), .second, .unset, .unset, .unset] [(.int (lcmpW r1 (0 : Int64))), (.long q1)])) _
        refine XS.ifNo X0.here hx rfl (hb hby at_93) rfl ((if0 _ _).trans (feq (fun q => q4 ((lw_eq _ _).mp q))).1) ?_
        show Steps p.tables e below (s₁.setTop (mkF m 96 #[.val (.long ua), .second, .val (.int ub), .val (.long q1), .second, .val (.int md), .val (.long r1), .second, .val (.long ((q1 * (16384 : Int64)) + r1)), .second, .unset, .unset, .unset] [(.long q1)])) _
        refine XS.lconst X0.here hx rfl (hb hby at_96) ?_
        show Steps p.tables e below (s₁.setTop (mkF m 97 #[.val (.long ua), .second, .val (.int ub), .val (.long q1), .second, .val (.int md), .val (.long r1), .second, .val (.long ((q1 * (16384 : Int64)) + r1)), .second, .unset, .unset, .unset] [(.long (1 : Int64)), (.long q1)])) _
        refine XS.goto X0.here hx rfl (pc0 := 97) (pc' := 101) rfl (hb hby at_97) (by decide) (by decide) ?_
        show Steps p.tables e below (s₁.setTop (mkF m 101 #[.val (.long ua), .second, .val (.int ub), .val (.long q1), .second, .val (.int md), .val (.long r1), .second, .val (.long ((q1 * (16384 : Int64)) + r1)), .second, .unset, .unset, .unset] [(.long (1 : Int64)), (.long q1)])) _
        exact kt)
      exact ⟨(1 : Int64), Or.inr ⟨q4, rfl⟩, st18⟩
  have st19 : own_Go p e below (s₁.setTop (mkF m 106 #[.val (.long ua), .second, .val (.int ub), .val (.long q1), .second, .val (.int md), .val (.long r1), .second, .val (.long ((q1 * (16384 : Int64)) + r1)), .second, .val (.long (q1 + d1)), .second, .unset] [(.long ((q1 * (16384 : Int64)) + r1))])) (s₁.setTop (entryFrame m #[(.long ua), (.int ub)] maxLocals)) := fun t kt => st16 t (by
    show Steps p.tables e below (s₁.setTop (mkF m 101 #[.val (.long ua), .second, .val (.int ub), .val (.long q1), .second, .val (.int md), .val (.long r1), .second, .val (.long ((q1 * (16384 : Int64)) + r1)), .second, .unset, .unset, .unset] [(.long d1), (.long q1)])) _
    refine XS.ladd X0.here hx rfl (hb hby at_101) rfl ?_
    show Steps p.tables e below (s₁.setTop (mkF m 102 #[.val (.long ua), .second, .val (.int ub), .val (.long q1), .second, .val (.int md), .val (.long r1), .second, .val (.long ((q1 * (16384 : Int64)) + r1)), .second, .unset, .unset, .unset] [(.long (q1 + d1))])) _
    refine XS.lstore X0.here hx rfl (hb hby at_102) rfl (l' := #[.val (.long ua), .second, .val (.int ub), .val (.long q1), .second, .val (.int md), .val (.long r1), .second, .val (.long ((q1 * (16384 : Int64)) + r1)), .second, .val (.long (q1 + d1)), .second, .unset]) rfl ?_
    show Steps p.tables e below (s₁.setTop (mkF m 104 #[.val (.long ua), .second, .val (.int ub), .val (.long q1), .second, .val (.int md), .val (.long r1), .second, .val (.long ((q1 * (16384 : Int64)) + r1)), .second, .val (.long (q1 + d1)), .second, .unset] [])) _
    refine XS.lload X0.here hx rfl (hb hby at_104) rfl ?_
    show Steps p.tables e below (s₁.setTop (mkF m 106 #[.val (.long ua), .second, .val (.int ub), .val (.long q1), .second, .val (.int md), .val (.long r1), .second, .val (.long ((q1 * (16384 : Int64)) + r1)), .second, .val (.long (q1 + d1)), .second, .unset] [(.long ((q1 * (16384 : Int64)) + r1))])) _
    exact kt)
  obtain ⟨_, _, ⟨T20, L20, k20, n20⟩, -, X20, ⟨Lc20, hQ20, l20, y20, z20⟩, ls20⟩ := Jvm.LawKit.callS X0 hx (y := (⟨"com/example/ranked_text_search/rankedtextsearch/CheckedFile", "chunkCount", "(J)I"⟩ : MethodName)) hown (mvT hZ (hw _ (List.mem_of_getElem? (i := 2) rfl))) (mvT hZ (hw _ (List.mem_of_getElem? (i := 3) rfl))) (mvT hZ (hw _ (List.mem_of_getElem? (i := 4) rfl))) (mvT hZ (hw _ (List.mem_of_getElem? (i := 5) rfl))) (by decide) (backOf (W := 0) (rm_ch l Z a0 hw [] (((q1 * (16384 : Int64)) + r1)) h0 n0 Z0) hZ (hw _ (List.mem_of_getElem? (i := 5) rfl)) (hw _ (List.mem_of_getElem? (i := 4) rfl)) (by decide) (by decide)) (g := (mkF m 106 #[.val (.long ua), .second, .val (.int ub), .val (.long q1), .second, .val (.int md), .val (.long r1), .second, .val (.long ((q1 * (16384 : Int64)) + r1)), .second, .val (.long (q1 + d1)), .second, .unset] [(.long ((q1 * (16384 : Int64)) + r1))])) rfl (by rw [hml]; rfl) (argsL := [(.long ((q1 * (16384 : Int64)) + r1))]) (rest := []) (lenOf own_pd0 rfl) rfl (by show 2 * 0 + _ ≤ _; exact Nat.le_of_eq rfl) (hb hby at_106) (fun _ _ => ⟨rfl, e0, (by decide : 0 + 0 ≤ _), (by decide : 0 + 0 ≤ _)⟩)
  dsimp only [Pt.U, Pt.locs, Pt.cells, Pt.slots] at X20 l20 y20 z20 ls20 hQ20
  subst l20 y20 z20
  obtain ⟨rfl, Nq20, eq20⟩ := hQ20
  have N20 := Fr.app N0 Nq20
  have st21 : own_Go p e below (T20.setTop (mkF m 109 #[.val (.long ua), .second, .val (.int ub), .val (.long q1), .second, .val (.int md), .val (.long r1), .second, .val (.long ((q1 * (16384 : Int64)) + r1)), .second, .val (.long (q1 + d1)), .second, .unset] [(.int ((((((q1 * (16384 : Int64)) + r1) + (16384 : Int64)) - (1 : Int64)) / (16384 : Int64)).toInt32))])) (s₁.setTop (entryFrame m #[(.long ua), (.int ub)] maxLocals)) := fun t kt => st19 t (ls20 t kt)
  have hc22 : (((((((q1 * (16384 : Int64)) + r1) + (16384 : Int64)) - (1 : Int64)) / (16384 : Int64)).toInt32).toInt64) = (q1 + d1) := own_fin q1 r1 d1 hj2 hj10 hj16
  have st23 : own_Go p e below (T20.setTop (mkF m 125 #[.val (.long ua), .second, .val (.int ub), .val (.long q1), .second, .val (.int md), .val (.long r1), .second, .val (.long ((q1 * (16384 : Int64)) + r1)), .second, .val (.long (q1 + d1)), .second, .val (.int ((((((q1 * (16384 : Int64)) + r1) + (16384 : Int64)) - (1 : Int64)) / (16384 : Int64)).toInt32))] [(.int (1 : Int32))])) (s₁.setTop (entryFrame m #[(.long ua), (.int ub)] maxLocals)) := fun t kt => st21 t (by
    show Steps p.tables e below (T20.setTop (mkF m 109 #[.val (.long ua), .second, .val (.int ub), .val (.long q1), .second, .val (.int md), .val (.long r1), .second, .val (.long ((q1 * (16384 : Int64)) + r1)), .second, .val (.long (q1 + d1)), .second, .unset] [(.int ((((((q1 * (16384 : Int64)) + r1) + (16384 : Int64)) - (1 : Int64)) / (16384 : Int64)).toInt32))])) _
    refine XS.istore X20.here hx rfl (hb hby at_109) rfl (l' := #[.val (.long ua), .second, .val (.int ub), .val (.long q1), .second, .val (.int md), .val (.long r1), .second, .val (.long ((q1 * (16384 : Int64)) + r1)), .second, .val (.long (q1 + d1)), .second, .val (.int ((((((q1 * (16384 : Int64)) + r1) + (16384 : Int64)) - (1 : Int64)) / (16384 : Int64)).toInt32))]) rfl ?_
    show Steps p.tables e below (T20.setTop (mkF m 111 #[.val (.long ua), .second, .val (.int ub), .val (.long q1), .second, .val (.int md), .val (.long r1), .second, .val (.long ((q1 * (16384 : Int64)) + r1)), .second, .val (.long (q1 + d1)), .second, .val (.int ((((((q1 * (16384 : Int64)) + r1) + (16384 : Int64)) - (1 : Int64)) / (16384 : Int64)).toInt32))] [])) _
    refine XS.iload X20.here hx rfl (hb hby at_111) rfl ?_
    show Steps p.tables e below (T20.setTop (mkF m 113 #[.val (.long ua), .second, .val (.int ub), .val (.long q1), .second, .val (.int md), .val (.long r1), .second, .val (.long ((q1 * (16384 : Int64)) + r1)), .second, .val (.long (q1 + d1)), .second, .val (.int ((((((q1 * (16384 : Int64)) + r1) + (16384 : Int64)) - (1 : Int64)) / (16384 : Int64)).toInt32))] [(.int ((((((q1 * (16384 : Int64)) + r1) + (16384 : Int64)) - (1 : Int64)) / (16384 : Int64)).toInt32))])) _
    refine XS.i2l X20.here hx rfl (hb hby at_113) rfl ?_
    show Steps p.tables e below (T20.setTop (mkF m 114 #[.val (.long ua), .second, .val (.int ub), .val (.long q1), .second, .val (.int md), .val (.long r1), .second, .val (.long ((q1 * (16384 : Int64)) + r1)), .second, .val (.long (q1 + d1)), .second, .val (.int ((((((q1 * (16384 : Int64)) + r1) + (16384 : Int64)) - (1 : Int64)) / (16384 : Int64)).toInt32))] [(.long (((((((q1 * (16384 : Int64)) + r1) + (16384 : Int64)) - (1 : Int64)) / (16384 : Int64)).toInt32).toInt64))])) _
    refine XS.lload X20.here hx rfl (hb hby at_114) rfl ?_
    show Steps p.tables e below (T20.setTop (mkF m 116 #[.val (.long ua), .second, .val (.int ub), .val (.long q1), .second, .val (.int md), .val (.long r1), .second, .val (.long ((q1 * (16384 : Int64)) + r1)), .second, .val (.long (q1 + d1)), .second, .val (.int ((((((q1 * (16384 : Int64)) + r1) + (16384 : Int64)) - (1 : Int64)) / (16384 : Int64)).toInt32))] [(.long (q1 + d1)), (.long (((((((q1 * (16384 : Int64)) + r1) + (16384 : Int64)) - (1 : Int64)) / (16384 : Int64)).toInt32).toInt64))])) _
    refine XS.lcmp X20.here hx rfl (hb hby at_116) rfl ?_
    show Steps p.tables e below (T20.setTop (mkF m 117 #[.val (.long ua), .second, .val (.int ub), .val (.long q1), .second, .val (.int md), .val (.long r1), .second, .val (.long ((q1 * (16384 : Int64)) + r1)), .second, .val (.long (q1 + d1)), .second, .val (.int ((((((q1 * (16384 : Int64)) + r1) + (16384 : Int64)) - (1 : Int64)) / (16384 : Int64)).toInt32))] [(.int (lcmpW (((((((q1 * (16384 : Int64)) + r1) + (16384 : Int64)) - (1 : Int64)) / (16384 : Int64)).toInt32).toInt64) (q1 + d1)))])) _
    refine XS.ifNo X20.here hx rfl (hb hby at_117) rfl ((if0 _ _).trans (teq ((lw_eq _ _).mpr hc22)).2) ?_
    show Steps p.tables e below (T20.setTop (mkF m 120 #[.val (.long ua), .second, .val (.int ub), .val (.long q1), .second, .val (.int md), .val (.long r1), .second, .val (.long ((q1 * (16384 : Int64)) + r1)), .second, .val (.long (q1 + d1)), .second, .val (.int ((((((q1 * (16384 : Int64)) + r1) + (16384 : Int64)) - (1 : Int64)) / (16384 : Int64)).toInt32))] [])) _
    refine XS.iconst X20.here hx rfl (hb hby at_120) ?_
    show Steps p.tables e below (T20.setTop (mkF m 121 #[.val (.long ua), .second, .val (.int ub), .val (.long q1), .second, .val (.int md), .val (.long r1), .second, .val (.long ((q1 * (16384 : Int64)) + r1)), .second, .val (.long (q1 + d1)), .second, .val (.int ((((((q1 * (16384 : Int64)) + r1) + (16384 : Int64)) - (1 : Int64)) / (16384 : Int64)).toInt32))] [(.int (1 : Int32))])) _
    refine XS.goto X20.here hx rfl (pc0 := 121) (pc' := 125) rfl (hb hby at_121) (by decide) (by decide) ?_
    show Steps p.tables e below (T20.setTop (mkF m 125 #[.val (.long ua), .second, .val (.int ub), .val (.long q1), .second, .val (.int md), .val (.long r1), .second, .val (.long ((q1 * (16384 : Int64)) + r1)), .second, .val (.long (q1 + d1)), .second, .val (.int ((((((q1 * (16384 : Int64)) + r1) + (16384 : Int64)) - (1 : Int64)) / (16384 : Int64)).toInt32))] [(.int (1 : Int32))])) _
    exact kt)
  obtain ⟨fs, hr, hrun, hended, hW, hsame⟩ := X20.leave (v := (some (.int (1 : Int32)))) (fun h => by rw [Bd.returns] at h; cases h)
  refine ⟨_, _, st23 _ ?_, hrun, hended, _, _, rfl, ?_, ⟨_, rfl⟩, hW, hsame.mono (by decide) (by decide)⟩
  · exact retN X20 hx (t := .boolean) Bd.returns (by simp) (hb hby at_125) hr
  · show Q_rm_law Z ua ub h0 n0 _ T20.heap _
    rw [eq20]
    exact ⟨rfl, N20⟩
set_option maxRecDepth 65536 in
set_option maxHeartbeats 40000000 in
theorem comes_1 {Post : Tables → Env → Array Value → State → Outcome → State → Prop} (hpost : ∀ tb e args s v u, (limb_1_1.after args s (.returned v) u = true ∧ limb_1_2.after args s (.returned v) u = true ∧ True) → FrameEnd s (.returned v) u (Jvm.fieldLocs frame_1_writes args s ++ Jvm.arrayLocs frame_1_arrays args s ++ Jvm.staticLocs frame_1_statics s) 0 0 → Post tb e args s (.returned v) u) :
    ArmFor flags0 classFile x code maxLocals ret World_1 tables_1 room_1 Calls_1 rest_1 Pre_1 Post := by
  intro l hfl _ _ p e ha hc hk s m args below hf hA hF happ hP
  obtain ⟨hcalls, hrest, hpre⟩ := hP
  obtain ⟨-, -, -, hnamed, -, -, -, hat⟩ := (Spec.applies_iff hf).mp happ
  obtain ⟨hg, hn⟩ := and_e (Cond.before_iff.mp (show (Jvm.Cond.and given_1 narrow_1).before args s = true from hpre))
  obtain ⟨gg1, gg2⟩ := and_e hg
  obtain ⟨gg3, gg4⟩ := and_e gg2
  obtain ⟨w0, w1, rfl⟩ : ∃ w0 w1 : Value, args = #[w0, w1] := by
    have hs : args.size = 2 := by simpa [Cond.value, given_1] using gg1
    obtain ⟨L⟩ := args
    match L, hs with
    | [w0, w1], _ => exact ⟨w0, w1, rfl⟩
  have hw := fun d (hd : d ∈ tables_1) => atoms_spec (ws := Jvm.Cond.code x code maxLocals ret :: tables_1) hat d (List.mem_cons_of_mem _ hd)
  have hfit : Fit s := fun {y c} hc i hi => by
    obtain ⟨ha, rfl⟩ := Array.getElem?_eq_some_iff.mp hc
    have q := List.all_eq_true.mp ((Array.all_eq_true_iff_forall_mem.mp hF) _ (Array.getElem_mem ha)) i (List.mem_range.mpr hi)
    simpa [Array.getElem?_eq_getElem hi] using q
  obtain ⟨i0, ei0⟩ := isL_v gg3
  obtain rfl : w0 = (.long i0) := Option.some.inj ei0
  obtain ⟨i1, ei1⟩ := is_v gg4
  obtain rfl : w1 = (.int i1) := Option.some.inj ei1
  obtain ⟨n, o, h1, h2, h3, _, L, rfl, ⟨rfl, N⟩, hq⟩ := rm_law l s _ hw tables_1 i0 i1  s.heap s.heap.size (Nat.le_refl _)  p e ha hc hk s m _ below hf ((Spec.applies_iff_loose hf).mp happ).1 ⟨rfl, State.Warmed39.refl s, rfl⟩ trivial
  refine ⟨n, _, h1, h2, h3, hpost _ _ _ _ _ _ ⟨Cond.after_iff.mpr rfl, Cond.after_iff.mpr (eq_i res_at (Term.int_eval (1)) rfl), trivial⟩ ⟨hq.1, hq.2.1, (hq.2.2.sift fun y hy => Or.inr (N y hy)).mono (by decide) (by decide)⟩⟩
theorem main_1_1 : Claimed_1_1 := comes_1 fun _ _ _ _ _ _ h hF => ⟨h.1, hF⟩
theorem main_1_2 : Claimed_1_2 := comes_1 fun _ _ _ _ _ _ h hF => ⟨h.2.1, hF⟩
end Jvm.Pilot.@@N@@
namespace Jvm.Pilot.@@N@@
open Jvm Jvm.ClassFile Sem Op Lib Jvm.Free Jvm.Stand Jvm.Pilot.@@N@@.Jvm.D
/-! MADE BY PROGRAM (witnessworld.py) out of the Statement's table words and the real class files: 7 classes; the members and pool entries that the words name. The judged class is class 1, her method 1. -/
namespace start1
open Jvm.ClassFile
def u (s : String) : CpInfo := .utf8 (stringToUtf16 s)
/-- a pool by its gaps: so many unusable entries, then the entry; so many at the end -/
def gap : Nat → List CpInfo → List CpInfo
  | 0, r => r
  | n + 1, r => .unusable :: gap n r
def poolList (es : List (Nat × CpInfo)) (last : Nat) : List CpInfo := es.foldr (fun e r => gap e.1 (e.2 :: r)) (gap last [])
def pool (es : List (Nat × CpInfo)) (last : Nat) : Array CpInfo := ⟨poolList es last⟩
def fileOf (pool : Array CpInfo) (this : Nat) (attrs : Array Attribute := #[]) (ms : Array MethodInfo := #[]) (fl : Nat := 33) (sup : Nat := 0) (ifs : Array Nat := #[]) (fds : Array FieldInfo := #[]) : ClassFile where
  minorVersion := 0
  majorVersion := 65
  constantPool := pool
  accessFlags := fl
  thisClass := this
  superClass := sup
  interfaces := ifs
  fields := fds
  methods := ms
  attributes := attrs
def plain (name : String) (sup : Option ClassId) : Class where
  name := name
  kind := .ordinary
  loader := none
  accessFlags := 33
  super := sup
  interfaces := #[]
  cf := none
  fields := #[]
  methods := #[]
  instanceTypes := #[]
  staticTypes := #[]
  resolved := #[]
  callSites := []
  init := .initialized
  statics := none
  mirror := none

def pool0 : Array CpInfo := pool [(5, u "<init>"), (0, u "()V"), (1, .class_ 10), (1, u "java/lang/Object")] 113

def k0m0 : Method := { name := "<init>", desc := "()V", sig := { parameters := [], returnType := none }, accessFlags := 1, code := none }
/-- java/lang/Object -/
def k0 : Class := { plain "java/lang/Object" none with
  accessFlags := 33
  interfaces := #[]
  cf := some (fileOf pool0 8 #[] #[{ accessFlags := 1, nameIndex := 5, descriptorIndex := 6, attributes := #[] }] 33 0 #[] #[])
  fields := #[]
  methods := #[k0m0]
  instanceTypes := #[]
  staticTypes := #[]
  resolved := Array.replicate 124 none
  statics := none }

def pool1 : Array CpInfo := pool [(2, .class_ 4), (1, u "java/lang/Object"), (0, u "<init>"), (0, u "()V"), (0, .long 2147483647), (1, .long 16383), (1, .long 16384), (1, .methodref 14 15), (0, .class_ 16), (0, .nameAndType 17 18), (0, u "com/example/ranked_text_search/rankedtextsearch/CheckedFile"), (0, u "chunkCount"), (0, u "(J)I"), (0, .class_ 20), (0, u "com/example/ranked_text_search/rankedtextsearch/CheckedFileChunkCountPinLaw"), (2, u "law"), (0, u "(JI)Z")] 3

def k1m0 : Method := { name := "<init>", desc := "()V", sig := { parameters := [], returnType := none }, accessFlags := 1, code := none }
def k1c1 : Code := { maxStack := 6, maxLocals := 13, code := code, exceptionTable := #[], attributes := #[] }
def k1m1 : Method := { name := "law", desc := "(JI)Z", sig := { parameters := [.long, .int], returnType := some .boolean }, accessFlags := 9, code := some k1c1 }
/-- com/example/ranked_text_search/rankedtextsearch/CheckedFileChunkCountPinLaw -/
def k1 : Class := { plain "com/example/ranked_text_search/rankedtextsearch/CheckedFileChunkCountPinLaw" (some 0) with
  accessFlags := 49
  interfaces := #[]
  cf := some (fileOf pool1 19 #[] #[{ accessFlags := 1, nameIndex := 5, descriptorIndex := 6, attributes := #[] }, { accessFlags := 9, nameIndex := 23, descriptorIndex := 24, attributes := #[] }] 49 2 #[] #[])
  fields := #[]
  methods := #[k1m0, k1m1]
  instanceTypes := #[]
  staticTypes := #[]
  resolved := Array.replicate 28 none
  statics := none }

def pool2 : Array CpInfo := pool [(2, .class_ 4), (1, u "java/lang/Object"), (3, .class_ 10), (1, u "com/example/ranked_text_search/rankedtextsearch/CheckedFile"), (0, u "file"), (0, u "Ljava/nio/file/Path;"), (2, u "segments"), (0, u "[Ljava/nio/ByteBuffer;"), (2, u "channel"), (0, u "Ljava/nio/channels/FileChannel;"), (2, u "size"), (0, u "J"), (2, u "checksums"), (0, u "[I"), (9, u "matched"), (0, u "Ljava/util/concurrent/atomic/AtomicLongArray;"), (25, .long 16384), (13, u "chunkCount"), (0, u "(J)I"), (68, u "CHUNK_SIZE"), (0, u "I"), (2, u "SEGMENT_SIZE"), (16, .class_ 171), (0, u "com/example/ranked_text_search/rankedtextsearch/CheckedFile$Checksums")] 28

def k2c0 : Code := { maxStack := 4, maxLocals := 2, code := prog_4_method_5_code, exceptionTable := #[], attributes := #[] }
def k2m0 : Method := { name := "chunkCount", desc := "(J)I", sig := { parameters := [.long], returnType := some .int }, accessFlags := 8, code := some k2c0 }
/-- com/example/ranked_text_search/rankedtextsearch/CheckedFile -/
def k2 : Class := { plain "com/example/ranked_text_search/rankedtextsearch/CheckedFile" (some 0) with
  accessFlags := 32
  interfaces := #[]
  cf := some (fileOf pool2 8 #[.nestMembers #[170]] #[{ accessFlags := 8, nameIndex := 79, descriptorIndex := 80, attributes := #[] }] 32 2 #[] #[{ accessFlags := 24, nameIndex := 149, descriptorIndex := 150, attributes := #[] }, { accessFlags := 26, nameIndex := 153, descriptorIndex := 24, attributes := #[] }, { accessFlags := 18, nameIndex := 11, descriptorIndex := 12, attributes := #[] }, { accessFlags := 18, nameIndex := 15, descriptorIndex := 16, attributes := #[] }, { accessFlags := 18, nameIndex := 19, descriptorIndex := 20, attributes := #[] }, { accessFlags := 18, nameIndex := 23, descriptorIndex := 24, attributes := #[] }, { accessFlags := 18, nameIndex := 27, descriptorIndex := 28, attributes := #[] }, { accessFlags := 18, nameIndex := 38, descriptorIndex := 39, attributes := #[] }])
  fields := #[{ name := "CHUNK_SIZE", type := .int, accessFlags := 24, slot := 0, constantValue := 0 }, { name := "SEGMENT_SIZE", type := .long, accessFlags := 26, slot := 1, constantValue := 0 }, { name := "file", type := (.object "java/nio/file/Path"), accessFlags := 18, slot := 0, constantValue := 0 }, { name := "segments", type := (.array (.object "java/nio/ByteBuffer")), accessFlags := 18, slot := 1, constantValue := 0 }, { name := "channel", type := (.object "java/nio/channels/FileChannel"), accessFlags := 18, slot := 2, constantValue := 0 }, { name := "size", type := .long, accessFlags := 18, slot := 3, constantValue := 0 }, { name := "checksums", type := (.array .int), accessFlags := 18, slot := 4, constantValue := 0 }, { name := "matched", type := (.object "java/util/concurrent/atomic/AtomicLongArray"), accessFlags := 18, slot := 5, constantValue := 0 }]
  methods := #[k2m0]
  instanceTypes := #[(.object "java/nio/file/Path"), (.array (.object "java/nio/ByteBuffer")), (.object "java/nio/channels/FileChannel"), .long, (.array .int), (.object "java/util/concurrent/atomic/AtomicLongArray")]
  staticTypes := #[.int, .long]
  resolved := Array.replicate 200 none
  statics := none }

def pool3 : Array CpInfo := pool [(1, u "java/lang/Cloneable"), (0, .class_ 1), (0, u "java/lang/Object"), (0, .class_ 3)] 3

/-- java/lang/Cloneable -/
def k3 : Class := { plain "java/lang/Cloneable" (some 0) with
  accessFlags := 1537
  interfaces := #[]
  cf := some (fileOf pool3 2 #[] #[] 1537 4 #[] #[])
  fields := #[]
  methods := #[]
  instanceTypes := #[]
  staticTypes := #[]
  resolved := Array.replicate 8 none
  statics := none }

def pool4 : Array CpInfo := pool [(1, u "java/io/Serializable"), (0, .class_ 1), (0, u "java/lang/Object"), (0, .class_ 3)] 3

/-- java/io/Serializable -/
def k4 : Class := { plain "java/io/Serializable" (some 0) with
  accessFlags := 1537
  interfaces := #[]
  cf := some (fileOf pool4 2 #[] #[] 1537 4 #[] #[])
  fields := #[]
  methods := #[]
  instanceTypes := #[]
  staticTypes := #[]
  resolved := Array.replicate 8 none
  statics := none }

/-- the primitive byte -/
def k5 : Class := { plain "byte" none with kind := .primitive 'B', accessFlags := 0x411 }
/-- [B -/
def k6 : Class := { plain "[B" (some 0) with kind := .array 5 .byte, interfaces := #[3, 4], accessFlags := 1041 }

def heap : Heap := #[]
def classes : Array Class := #[k0, k1, k2, k3, k4, k5, k6]
def interned : List (Array UInt16 × Addr) := []
def slotsUsed : Nat := 0
def theMethod : MethodId := ⟨1, 1⟩
def args0 : Array Value := #[.long 5, .int 300]
def aboutOver (below : List Frame) : State where
  vm := { classes := classes, interned := interned.toArray }
  heap := heap
  slotsUsed := slotsUsed
  threads := #[{ frames := .invoking theMethod args0 :: below }]
def below0 : List Frame := [.native { method := ⟨0, 0⟩, args := #[] }]
def about1 : State := aboutOver below0
def p0 : Program := .bare "" "" ""
def e0 : Env := launch0.env 0 0 0
theorem w_frames : about1.frames = Frame.invoking theMethod args0 :: below0 := rfl
set_option maxRecDepth 65536 in
theorem w_args : argsFit about1.vm theMethod args0 = true := by decide +kernel
set_option maxRecDepth 65536 in
theorem w_heap : heapFits about1 = true := by decide +kernel
set_option maxRecDepth 65536 in
theorem w_runnable : about1.curStatus? = some .runnable := by decide +kernel
set_option maxRecDepth 65536 in
theorem w_alone : about1.alone = true := by decide +kernel
set_option maxRecDepth 65536 in
theorem w_named : about1.methodNamed? x = some theMethod := by decide +kernel
set_option maxRecDepth 65536 in
theorem w_hears : about1.hears theMethod below0 = true := by decide +kernel
set_option maxRecDepth 65536 in
theorem w_ripe : about1.ripe theMethod args0 below0 = true := by decide +kernel
theorem w_running : about1.status = .running := rfl
set_option maxRecDepth 65536 in
theorem w_room : about1.hasRoom e0.platform room_1 = true :=
  launch0.hasRoom_least _ room_1 (by decide +kernel) (by decide +kernel) (by decide +kernel) (by decide +kernel) (by decide +kernel) (by decide +kernel)
theorem allAtoms_all (ts : List Jvm.Cond) (a : Array Jvm.Value) (st : Jvm.State) : (allAtoms ts).before a st = ts.all (fun c => c.before a st) := by
  induction ts with
  | nil => rfl
  | cons c t ih =>
    show (Jvm.Cond.and c (allAtoms t)).before a st = _
    rw [Jvm.Cond.before_and, ih, List.all_cons]
def words1 : List Jvm.Cond := Jvm.Cond.code x code maxLocals ret :: tables_1
/-- a 'code' word, met by the world's own term for the bytes: nothing is compared byte by byte -/
theorem code_word {y : MethodName} {bytes : ByteArray} {mx : Nat} {rt : Option FieldType} {a : Array Value} {s : State} {m : MethodId} {meth : Method} {c : Code} (h1 : s.methodNamed? y = some m) (h2 : s.vm.method? m = some meth) (h3 : meth.code = some c) (h4 : c.code = bytes)
    (h5 : (c.maxLocals == mx && c.exceptionTable.isEmpty && decide (c.maxStack ≤ mostOperands) && decide (meth.sig.returnType = rt) && !meth.locks && decide (parseMethodDescriptor y.desc = some meth.sig)) = true) : (Jvm.Cond.code y bytes mx rt).before a s = true := by
  simp only [Bool.and_eq_true, beq_iff_eq, Bool.not_eq_true', decide_eq_true_eq] at h5
  obtain ⟨⟨⟨⟨⟨g1, g2⟩, g3⟩, g4⟩, g5⟩, g6⟩ := h5
  simp [Cond.before, Cond.holds, Cond.value, h1, h2, h3, h4, g1, g2, g3, g4, g5, g6]
def isCode : Jvm.Cond → Bool
  | .code _ _ _ _ => true
  | _ => false
theorem all_split {L : List Jvm.Cond} {P : Jvm.Cond → Bool} (h1 : L.all (fun c => isCode c || P c) = true) (h2 : ∀ c ∈ L.filter isCode, P c = true) : L.all P = true := by
  refine List.all_eq_true.mpr fun c hc => ?_
  have h := List.all_eq_true.mp h1 c hc
  rcases Bool.eq_false_or_eq_true (isCode c) with hi | hi
  · exact h2 c (List.mem_filter.mpr ⟨hc, hi⟩)
  · simpa [hi] using h
set_option maxRecDepth 65536 in
theorem w_c0 : (Jvm.Cond.code x code maxLocals ret).before args0 about1 = true := code_word (m := ⟨1, 1⟩) (meth := k1m1) (c := k1c1) (by decide +kernel) rfl rfl rfl (by decide +kernel)
set_option maxRecDepth 65536 in
theorem w_c1 : (Jvm.Cond.code ({ cls := "com/example/ranked_text_search/rankedtextsearch/CheckedFile", name := "chunkCount", desc := "(J)I" } : Jvm.MethodName) prog_4_method_5_code (2 : Nat) (Option.some Jvm.ClassFile.FieldType.int)).before args0 about1 = true := code_word (m := ⟨2, 0⟩) (meth := k2m0) (c := k2c0) (by decide +kernel) rfl rfl rfl (by decide +kernel)
def codes1 : List Jvm.Cond := [Jvm.Cond.code x code maxLocals ret, Jvm.Cond.code ({ cls := "com/example/ranked_text_search/rankedtextsearch/CheckedFile", name := "chunkCount", desc := "(J)I" } : Jvm.MethodName) prog_4_method_5_code (2 : Nat) (Option.some Jvm.ClassFile.FieldType.int)]
set_option maxRecDepth 65536 in
theorem codes_eq : words1.filter isCode = codes1 := rfl
theorem w_codes : ∀ c ∈ words1.filter isCode, c.before args0 about1 = true := by
  rw [codes_eq]
  intro c hc
  simp only [codes1, List.mem_cons, List.not_mem_nil, or_false] at hc
  rcases hc with rfl | rfl
  · exact w_c0
  · exact w_c1
set_option maxRecDepth 65536 in
theorem w_t1 : words1.all (fun c => isCode c || c.before args0 about1) = true := by decide +kernel
theorem w_tables : (allAtoms (Jvm.Cond.code x code maxLocals ret :: tables_1)).before args0 about1 = true := by
  rw [allAtoms_all]
  show words1.all (fun c => c.before args0 about1) = true
  refine all_split ?_ w_codes
  rw [w_t1]
set_option maxRecDepth 65536 in
theorem w_case : (Jvm.Cond.and given_1 narrow_1).before args0 about1 = true := by decide +kernel
theorem w_applies : (headSpec (Jvm.Cond.code x code maxLocals ret :: tables_1) room_1).applies x e0.platform about1 = true :=
  (Spec.applies_iff w_frames).mpr ⟨w_running, w_runnable, w_alone, w_named, w_hears, w_ripe, w_room, w_tables⟩
theorem atStart : AtStart classFile x code maxLocals ret World_1 tables_1 room_1 Calls_1 rest_1 Pre_1 launch0 p0 e0 about1 theMethod args0 below0 :=
  ⟨lists_1, trivial, launch0.admits_env _ _ _, launch0.least_env, fairChoices_fair.cas, fairChoices_fair.clock, w_frames, w_args, w_heap, w_applies, trivial, trivial, w_case⟩
end start1
theorem witness_1 : WitnessClaimed_1 := ⟨start1.p0, start1.e0, start1.about1, start1.theMethod, start1.args0, start1.below0, start1.atStart⟩
end Jvm.Pilot.@@N@@
