import JvmDerived
import JvmDerived.Pilot.@@N@@Statement
import JvmDerived.Pilot.@@N@@Code
set_option linter.unusedVariables false
set_option linter.unusedSimpArgs false
namespace Jvm.Pilot.@@N@@
open Jvm Jvm.ClassFile Sem Op Lib Jvm.Free Jvm.Stand Jvm.LawKit Jvm.RoadKit Bundle Jvm.Pilot.@@N@@.Jvm.D
abbrev own_Go (p : Program) (e : Env) (below : List Frame) (A B : State) : Prop := ∀ t, Steps p.tables e below A t → Steps p.tables e below B t

def own_min (x y : Int64) : Int64 := if y < x then y else x
def own_hold (t m b : Int64) : Int32 := if b < t + m then 0 else 1
theorem own_mk (a : Int64) : 0 ≤ (a &&& 4611686018427387903).toInt ∧ (a &&& 4611686018427387903).toInt < 4611686018427387904 := by
  have h := c_maskL a 4611686018427387903 62 (by decide) (by decide)
  have e : ((2 ^ 62 : Nat) : Int) = 4611686018427387904 := rfl
  rw [e] at h
  omega
theorem own_ex (t g : Int64) (ht : 0 ≤ t.toInt ∧ t.toInt < 4611686018427387904) (hg : 0 ≤ g.toInt ∧ g.toInt < 4611686018427387904) :
    0 ≤ (t - own_min g t).toInt ∧ (t - own_min g t).toInt < 4611686018427387904 := by
  have hm : 0 ≤ (own_min g t).toInt ∧ (own_min g t).toInt ≤ t.toInt := by
    unfold own_min
    by_cases q : t < g
    · rw [if_pos q]; exact ⟨ht.1, Int.le_refl _⟩
    · rw [if_neg q]
      rw [Int64.lt_iff_toInt_lt] at q
      omega
  have e := c_lsub t (own_min g t)
  have r := rng64 (t - own_min g t)
  omega
theorem own_m1 (b x m : Int64) (hb : 0 ≤ b.toInt ∧ b.toInt < 4611686018427387904) (hx : 0 ≤ x.toInt ∧ x.toInt < 4611686018427387904) :
    -9223372036854775808 ≤ x.toInt + ((b - x) + ((m &&& 7) - 4)).toInt ∧ x.toInt + ((b - x) + ((m &&& 7) - 4)).toInt < 9223372036854775808 := by
  have h := c_maskL m 7 3 (by decide) (by decide)
  have e : ((2 ^ 3 : Nat) : Int) = 8 := rfl
  rw [e] at h
  have a1 := c_lsub b x
  have a2 := c_lsub (m &&& 7) 4
  have a3 := c_ladd (b - x) ((m &&& 7) - 4)
  have e4 : (4 : Int64).toInt = 4 := rfl
  rw [e4] at a2
  have r1 := rng64 (b - x)
  have r2 := rng64 ((m &&& 7) - 4)
  have r3 := rng64 ((b - x) + ((m &&& 7) - 4))
  omega
theorem own_iff (b x m : Int64) (hb : 0 ≤ b.toInt ∧ b.toInt < 4611686018427387904) (hx : 0 ≤ x.toInt ∧ x.toInt < 4611686018427387904) (hm : -9223372036854775808 ≤ x.toInt + m.toInt ∧ x.toInt + m.toInt < 9223372036854775808) :
    (b - x < m) ↔ (b < x + m) := by
  have a1 := c_lsub b x
  have a3 := c_ladd x m
  have r1 := rng64 (b - x)
  have r3 := rng64 (x + m)
  rw [Int64.lt_iff_toInt_lt, Int64.lt_iff_toInt_lt]
  omega
theorem own_eq (t g : Int64) : ((0 + t) - g) = t - g := by rw [Int64.zero_add]

theorem own_ef1_JJ (m : MethodId) (x0 : Int64) (x1 : Int64) : entryFrame m #[(.long x0), (.long x1)] 4 = mkF m 0 #[.val (.long x0), .second, .val (.long x1), .second] [] := by first | (simp [entryFrame, mkF, argsToLocals, Value.category]; done) | rfl
theorem d1_0 : decode jdk_29_method_70_code 0 = .ok (.lload_n 0, 1) := by decide +kernel
theorem d1_1 : decode jdk_29_method_70_code 1 = .ok (.lload_n 2, 1) := by decide +kernel
theorem d1_2 : decode jdk_29_method_70_code 2 = .ok (.lcmp, 1) := by decide +kernel
theorem d1_3 : decode jdk_29_method_70_code 3 = .ok (.ifCond .gt 7, 3) := by decide +kernel
theorem d1_10 : decode jdk_29_method_70_code 10 = .ok (.lload_n 2, 1) := by decide +kernel
theorem d1_11 : decode jdk_29_method_70_code 11 = .ok (.lreturn, 1) := by decide +kernel
theorem d1_6 : decode jdk_29_method_70_code 6 = .ok (.lload_n 0, 1) := by decide +kernel
theorem d1_7 : decode jdk_29_method_70_code 7 = .ok (.goto 4, 3) := by decide +kernel
theorem own_pn0 : plainName "com/example/pactum/pactum/service/Room" = true := by first | (simp [plainName, overriddenIn]; done) | decide +kernel
theorem own_ef2_RJ (m : MethodId) (x0 : Addr) (x1 : Int64) : entryFrame m #[(.ref x0), (.long x1)] 3 = mkF m 0 #[.val (.ref x0), .val (.long x1), .second] [] := by first | (simp [entryFrame, mkF, argsToLocals, Value.category]; done) | rfl
theorem d2_0 : decode prog_199_method_1_code 0 = .ok (.aload_n 0, 1) := by decide +kernel
theorem d2_1 : decode prog_199_method_1_code 1 = .ok (.invokespecial 5, 3) := by decide +kernel
theorem d2_4 : decode prog_199_method_1_code 4 = .ok (.aload_n 0, 1) := by decide +kernel
theorem d2_5 : decode prog_199_method_1_code 5 = .ok (.lload_n 1, 1) := by decide +kernel
theorem d2_6 : decode prog_199_method_1_code 6 = .ok (.putfield 11, 3) := by decide +kernel
theorem d2_9 : decode prog_199_method_1_code 9 = .ok (.return_, 1) := by decide +kernel
theorem own_ef4_RJ (m : MethodId) (x0 : Addr) (x1 : Int64) : entryFrame m #[(.ref x0), (.long x1)] 3 = mkF m 0 #[.val (.ref x0), .val (.long x1), .second] [] := by first | (simp [entryFrame, mkF, argsToLocals, Value.category]; done) | rfl
theorem d4_0 : decode prog_199_method_5_code 0 = .ok (.aload_n 0, 1) := by decide +kernel
theorem d4_1 : decode prog_199_method_5_code 1 = .ok (.dup, 1) := by decide +kernel
theorem d4_2 : decode prog_199_method_5_code 2 = .ok (.getfield 25, 3) := by decide +kernel
theorem d4_5 : decode prog_199_method_5_code 5 = .ok (.lload_n 1, 1) := by decide +kernel
theorem d4_6 : decode prog_199_method_5_code 6 = .ok (.ladd, 1) := by decide +kernel
theorem d4_7 : decode prog_199_method_5_code 7 = .ok (.putfield 25, 3) := by decide +kernel
theorem d4_10 : decode prog_199_method_5_code 10 = .ok (.return_, 1) := by decide +kernel
theorem own_ef5_RJ (m : MethodId) (x0 : Addr) (x1 : Int64) : entryFrame m #[(.ref x0), (.long x1)] 3 = mkF m 0 #[.val (.ref x0), .val (.long x1), .second] [] := by first | (simp [entryFrame, mkF, argsToLocals, Value.category]; done) | rfl
theorem d5_0 : decode prog_199_method_6_code 0 = .ok (.aload_n 0, 1) := by decide +kernel
theorem d5_1 : decode prog_199_method_6_code 1 = .ok (.dup, 1) := by decide +kernel
theorem d5_2 : decode prog_199_method_6_code 2 = .ok (.getfield 25, 3) := by decide +kernel
theorem d5_5 : decode prog_199_method_6_code 5 = .ok (.lload_n 1, 1) := by decide +kernel
theorem d5_6 : decode prog_199_method_6_code 6 = .ok (.lsub, 1) := by decide +kernel
theorem d5_7 : decode prog_199_method_6_code 7 = .ok (.putfield 25, 3) := by decide +kernel
theorem d5_10 : decode prog_199_method_6_code 10 = .ok (.return_, 1) := by decide +kernel
theorem own_ef6_R (m : MethodId) (x0 : Addr) : entryFrame m #[(.ref x0)] 1 = mkF m 0 #[.val (.ref x0)] [] := by first | (simp [entryFrame, mkF, argsToLocals, Value.category]; done) | rfl
theorem d6_0 : decode prog_199_method_3_code 0 = .ok (.aload_n 0, 1) := by decide +kernel
theorem d6_1 : decode prog_199_method_3_code 1 = .ok (.getfield 25, 3) := by decide +kernel
theorem d6_4 : decode prog_199_method_3_code 4 = .ok (.lreturn, 1) := by decide +kernel
theorem own_ef7_RJ (m : MethodId) (x0 : Addr) (x1 : Int64) : entryFrame m #[(.ref x0), (.long x1)] 3 = mkF m 0 #[.val (.ref x0), .val (.long x1), .second] [] := by first | (simp [entryFrame, mkF, argsToLocals, Value.category]; done) | rfl
theorem d7_0 : decode prog_199_method_4_code 0 = .ok (.aload_n 0, 1) := by decide +kernel
theorem d7_1 : decode prog_199_method_4_code 1 = .ok (.getfield 25, 3) := by decide +kernel
theorem d7_4 : decode prog_199_method_4_code 4 = .ok (.lload_n 1, 1) := by decide +kernel
theorem d7_5 : decode prog_199_method_4_code 5 = .ok (.ladd, 1) := by decide +kernel
theorem d7_6 : decode prog_199_method_4_code 6 = .ok (.aload_n 0, 1) := by decide +kernel
theorem d7_7 : decode prog_199_method_4_code 7 = .ok (.getfield 11, 3) := by decide +kernel
theorem d7_10 : decode prog_199_method_4_code 10 = .ok (.lcmp, 1) := by decide +kernel
theorem d7_11 : decode prog_199_method_4_code 11 = .ok (.ifCond .gt 7, 3) := by decide +kernel
theorem d7_18 : decode prog_199_method_4_code 18 = .ok (.iconst 0, 1) := by decide +kernel
theorem d7_19 : decode prog_199_method_4_code 19 = .ok (.ireturn, 1) := by decide +kernel
theorem d7_14 : decode prog_199_method_4_code 14 = .ok (.iconst 1, 1) := by decide +kernel
theorem d7_15 : decode prog_199_method_4_code 15 = .ok (.goto 4, 3) := by decide +kernel
theorem own_pn1 : plainName "com/example/pactum/pactum/service/RoomHoldsPinLaw" = true := by first | (simp [plainName, overriddenIn]; done) | decide +kernel
theorem own_ef0_JJJJI (m : MethodId) (x0 : Int64) (x1 : Int64) (x2 : Int64) (x3 : Int64) (x4 : Int32) : entryFrame m #[(.long x0), (.long x1), (.long x2), (.long x3), (.int x4)] maxLocals = mkF m 0 #[.val (.long x0), .second, .val (.long x1), .second, .val (.long x2), .second, .val (.long x3), .second, .val (.int x4), .unset, .unset, .unset, .unset, .unset, .unset, .unset, .unset, .unset, .unset, .unset, .unset, .unset, .unset, .unset, .unset] [] := by first | (simp [entryFrame, mkF, argsToLocals, Value.category, maxLocals]; done) | rfl
theorem own_pd0 : parseMethodDescriptor "(JJ)J" = some ⟨[.long, .long], some .long⟩ := by decide +kernel
theorem own_pd1 : parseMethodDescriptor "(J)V" = some ⟨[.long], none⟩ := by decide +kernel
theorem own_pd2 : parseMethodDescriptor "()J" = some ⟨[], some .long⟩ := by decide +kernel
theorem own_pd3 : parseMethodDescriptor "(J)Z" = some ⟨[.long], some .boolean⟩ := by decide +kernel
def Q_rm_min (Z : State) (u1 : Int64) (u2 : Int64) (h0 : Heap) (n0 : Nat) (v : Option Value) (h : Heap) (L : List Loc) : Prop := v = some (.long (own_min u1 u2)) ∧ Fr n0 L ∧ h = h0
set_option maxRecDepth 65536 in
set_option maxHeartbeats 40000000 in
theorem rm_min (l : Launch) (Z : State) (a0 : Array Value) (hw : ∀ d ∈ tables_1, d.before a0 Z = true) (ws : List Jvm.Cond) (u1 : Int64) (u2 : Int64) (h0 : Heap) (n0 : Nat) (Z0 : n0 ≤ h0.size) :
    MetFree l (⟨"java/lang/Math", "min", "(JJ)J"⟩ : MethodName) (head1 (Jvm.Cond.code (⟨"java/lang/Math", "min", "(JJ)J"⟩ : MethodName) jdk_29_method_70_code 4 (some .long) :: ws) ({ frames := 0, cells := 0, slots := 0, locals := 0 } : Room)) (fun a U => a = #[(.long u1), (.long u2)] ∧ Z.Warmed39 U.vm ∧ U.heap = h0) (fun _ _ _ _ _ => True) (fun _ U o U' => ∃ v L, o = .returned v ∧ Q_rm_min Z u1 u2 h0 n0 v U'.heap L ∧ FrameEnd U o U' L ({ frames := 0, cells := 0, slots := 0, locals := 0 } : Room).cells ({ frames := 0, cells := 0, slots := 0, locals := 0 } : Room).slots) := by
  refine MetFree.of_bodySF (Jvm.Free.JP.mathPlain rfl (by decide +kernel)) hisR ?_
  intro p e s m args below meth c s₁ Bd hml0 hP hK
  obtain ⟨rfl, hZ, hh⟩ := hP
  have hx := Bd.exec
  have hby := Bd.bytes
  have hml : c.maxLocals = 4 := hml0
  have hown : s.vm.findClass "java/lang/Math" = some m.cls := findClass_of_methodNamed Bd.named
  have hnm := (name_of_methodNamed Bd.named Bd.method).1
  have X0 : Stand p l e ({ frames := 0, cells := 0, slots := 0, locals := 0 } : Room) s m #[(.long u1), (.long u2)] below meth c s₁ [] 0 0 := Stand.of_body Bd
  have e0 : s₁.heap = h0 := by rw [← hh, Bd.state]; rfl
  have N0 := Fr.nil n0
  have st0 : own_Go p e below (s₁.setTop (mkF m 0 #[.val (.long u1), .second, .val (.long u2), .second] [])) (s₁.setTop (entryFrame m #[(.long u1), (.long u2)] 4)) := fun t k => castTop (own_ef1_JJ m u1 u2) k
  have st1 : own_Go p e below (s₁.setTop (mkF m 3 #[.val (.long u1), .second, .val (.long u2), .second] [(.int (lcmpW u1 u2))])) (s₁.setTop (entryFrame m #[(.long u1), (.long u2)] 4)) := fun t kt => st0 t (by
    show Steps p.tables e below (s₁.setTop (mkF m 0 #[.val (.long u1), .second, .val (.long u2), .second] [])) _
    refine XS.lloadN X0.here hx rfl (hb hby d1_0) rfl ?_
    show Steps p.tables e below (s₁.setTop (mkF m 1 #[.val (.long u1), .second, .val (.long u2), .second] [(.long u1)])) _
    refine XS.lloadN X0.here hx rfl (hb hby d1_1) rfl ?_
    show Steps p.tables e below (s₁.setTop (mkF m 2 #[.val (.long u1), .second, .val (.long u2), .second] [(.long u2), (.long u1)])) _
    refine XS.lcmp X0.here hx rfl (hb hby d1_2) rfl ?_
    show Steps p.tables e below (s₁.setTop (mkF m 3 #[.val (.long u1), .second, .val (.long u2), .second] [(.int (lcmpW u1 u2))])) _
    exact kt)
  by_cases q1 : u2 < u1
  · have st2 : own_Go p e below (s₁.setTop (mkF m 11 #[.val (.long u1), .second, .val (.long u2), .second] [(.long u2)])) (s₁.setTop (entryFrame m #[(.long u1), (.long u2)] 4)) := fun t kt => st1 t (by
      show Steps p.tables e below (s₁.setTop (mkF m 3 #[.val (.long u1), .second, .val (.long u2), .second] [(.int (lcmpW u1 u2))])) _
      refine XS.ifYes X0.here hx rfl (pc0 := 3) (pc' := 10) rfl (hb hby d1_3) rfl ((if0 _ _).trans (tlt ((lw_gt _ _).mpr q1)).2.2.1) (by decide) (by decide) ?_
      show Steps p.tables e below (s₁.setTop (mkF m 10 #[.val (.long u1), .second, .val (.long u2), .second] [])) _
      refine XS.lloadN X0.here hx rfl (hb hby d1_10) rfl ?_
      show Steps p.tables e below (s₁.setTop (mkF m 11 #[.val (.long u1), .second, .val (.long u2), .second] [(.long u2)])) _
      exact kt)
    obtain ⟨fs, hr, hrun, hended, hW, hsame⟩ := X0.leave (v := (some (.long u2))) (fun h => by rw [Bd.returns] at h; cases h)
    refine ⟨_, _, st2 _ ?_, hrun, hended, _, _, rfl, ?_, ⟨_, rfl⟩, hW, hsame.mono (by decide) (by decide)⟩
    · exact retOut X0 hx Bd.returns rfl (Or.inr (Or.inl ⟨rfl, rfl, _, rfl⟩)) (hb hby d1_11) hr
    · show Q_rm_min Z u1 u2 h0 n0 _ s₁.heap _
      rw [e0]
      exact ⟨by simp [own_min, q1], N0, rfl⟩
  · have st3 : own_Go p e below (s₁.setTop (mkF m 11 #[.val (.long u1), .second, .val (.long u2), .second] [(.long u1)])) (s₁.setTop (entryFrame m #[(.long u1), (.long u2)] 4)) := fun t kt => st1 t (by
      show Steps p.tables e below (s₁.setTop (mkF m 3 #[.val (.long u1), .second, .val (.long u2), .second] [(.int (lcmpW u1 u2))])) _
      refine XS.ifNo X0.here hx rfl (hb hby d1_3) rfl ((if0 _ _).trans (flt (fun q => q1 ((lw_gt _ _).mp q))).2.2.1) ?_
      show Steps p.tables e below (s₁.setTop (mkF m 6 #[.val (.long u1), .second, .val (.long u2), .second] [])) _
      refine XS.lloadN X0.here hx rfl (hb hby d1_6) rfl ?_
      show Steps p.tables e below (s₁.setTop (mkF m 7 #[.val (.long u1), .second, .val (.long u2), .second] [(.long u1)])) _
      refine XS.goto X0.here hx rfl (pc0 := 7) (pc' := 11) rfl (hb hby d1_7) (by decide) (by decide) ?_
      show Steps p.tables e below (s₁.setTop (mkF m 11 #[.val (.long u1), .second, .val (.long u2), .second] [(.long u1)])) _
      exact kt)
    obtain ⟨fs, hr, hrun, hended, hW, hsame⟩ := X0.leave (v := (some (.long u1))) (fun h => by rw [Bd.returns] at h; cases h)
    refine ⟨_, _, st3 _ ?_, hrun, hended, _, _, rfl, ?_, ⟨_, rfl⟩, hW, hsame.mono (by decide) (by decide)⟩
    · exact retOut X0 hx Bd.returns rfl (Or.inr (Or.inl ⟨rfl, rfl, _, rfl⟩)) (hb hby d1_11) hr
    · show Q_rm_min Z u1 u2 h0 n0 _ s₁.heap _
      rw [e0]
      exact ⟨by simp [own_min, q1], N0, rfl⟩
def Q_rm_init (Z : State) (ao : Addr) (u : Int64) (h0 : Heap) (n0 : Nat) (v : Option Value) (h : Heap) (L : List Loc) : Prop := v = none ∧ Fr n0 L ∧ Keep h0 h [ao] ∧ Fld Z h ao "com/example/pactum/pactum/service/Room" "bytes" "J" (.long u) ∧ Fld Z h ao "com/example/pactum/pactum/service/Room" "taken" "J" (.long 0)
set_option maxRecDepth 65536 in
set_option maxHeartbeats 40000000 in
theorem rm_init (l : Launch) (Z : State) (a0 : Array Value) (hw : ∀ d ∈ tables_1, d.before a0 Z = true) (ws : List Jvm.Cond) (ao : Addr) (u : Int64) (h0 : Heap) (n0 : Nat) (Z0 : n0 ≤ h0.size) (F_bytes_ao : Fld Z h0 ao "com/example/pactum/pactum/service/Room" "bytes" "J" (.long (0 : Int64))) (F_taken_ao : Fld Z h0 ao "com/example/pactum/pactum/service/Room" "taken" "J" (.long (0 : Int64))) (E_ao : Exa Z h0 ao "com/example/pactum/pactum/service/Room") (g_ao : n0 ≤ ao) :
    MetFree l (⟨"com/example/pactum/pactum/service/Room", "<init>", "(J)V"⟩ : MethodName) (head1 (Jvm.Cond.code (⟨"com/example/pactum/pactum/service/Room", "<init>", "(J)V"⟩ : MethodName) prog_199_method_1_code 3 none :: ws) ({ frames := 1, cells := 0, slots := 0, locals := 12 } : Room)) (fun a U => a = #[(.ref ao), (.long u)] ∧ Z.Warmed39 U.vm ∧ U.heap = h0) (fun _ _ _ _ _ => True) (fun _ U o U' => ∃ v L, o = .returned v ∧ Q_rm_init Z ao u h0 n0 v U'.heap L ∧ FrameEnd U o U' L ({ frames := 1, cells := 0, slots := 0, locals := 12 } : Room).cells ({ frames := 1, cells := 0, slots := 0, locals := 12 } : Room).slots) := by
  refine MetFree.of_bodySF (plainFor_of_name own_pn0) hisR ?_
  intro p e s m args below meth c s₁ Bd hml0 hP hK
  obtain ⟨rfl, hZ, hh⟩ := hP
  have hx := Bd.exec
  have hby := Bd.bytes
  have hml : c.maxLocals = 3 := hml0
  have hown : s.vm.findClass "com/example/pactum/pactum/service/Room" = some m.cls := findClass_of_methodNamed Bd.named
  have hnm := (name_of_methodNamed Bd.named Bd.method).1
  have X0 : Stand p l e ({ frames := 1, cells := 0, slots := 0, locals := 12 } : Room) s m #[(.ref ao), (.long u)] below meth c s₁ [] 0 0 := Stand.of_body Bd
  have e0 : s₁.heap = h0 := by rw [← hh, Bd.state]; rfl
  have N0 := Fr.nil n0
  have st0 : own_Go p e below (s₁.setTop (mkF m 0 #[.val (.ref ao), .val (.long u), .second] [])) (s₁.setTop (entryFrame m #[(.ref ao), (.long u)] 3)) := fun t k => castTop (own_ef2_RJ m ao u) k
  have k0 : Keep h0 h0 [ao] := Keep.refl _ _
  have st1 : own_Go p e below (s₁.setTop (mkF m 1 #[.val (.ref ao), .val (.long u), .second] [(.ref ao)])) (s₁.setTop (entryFrame m #[(.ref ao), (.long u)] 3)) := fun t kt => st0 t (by
    show Steps p.tables e below (s₁.setTop (mkF m 0 #[.val (.ref ao), .val (.long u), .second] [])) _
    refine XS.aloadN X0.here hx rfl (hb hby d2_0) rfl rfl ?_
    show Steps p.tables e below (s₁.setTop (mkF m 1 #[.val (.ref ao), .val (.long u), .second] [(.ref ao)])) _
    exact kt)
  obtain ⟨T2, X2, e2, ls2⟩ := initO X0 hx hZ hown (hw _ (List.mem_of_getElem? (i := 13) rfl)) (hw _ (List.mem_of_getElem? (i := 14) rfl)) (hw _ (List.mem_of_getElem? (i := 15) rfl)) e0 (g := (mkF m 1 #[.val (.ref ao), .val (.long u), .second] [(.ref ao)])) rfl (by rw [hml]; rfl) rfl (hb hby d2_1) (by decide) (W := 0) (by show 2 * 0 + _ ≤ _; exact Nat.le_of_eq rfl) (by decide)
  have st3 : own_Go p e below (T2.setTop (mkF m 4 #[.val (.ref ao), .val (.long u), .second] [])) (s₁.setTop (entryFrame m #[(.ref ao), (.long u)] 3)) := fun t kt => st1 t (ls2 t kt)
  have st4 : own_Go p e below (T2.setTop (mkF m 6 #[.val (.ref ao), .val (.long u), .second] [(.long u), (.ref ao)])) (s₁.setTop (entryFrame m #[(.ref ao), (.long u)] 3)) := fun t kt => st3 t (by
    show Steps p.tables e below (T2.setTop (mkF m 4 #[.val (.ref ao), .val (.long u), .second] [])) _
    refine XS.aloadN X2.here hx rfl (hb hby d2_4) rfl rfl ?_
    show Steps p.tables e below (T2.setTop (mkF m 5 #[.val (.ref ao), .val (.long u), .second] [(.ref ao)])) _
    refine XS.lloadN X2.here hx rfl (hb hby d2_5) rfl ?_
    show Steps p.tables e below (T2.setTop (mkF m 6 #[.val (.ref ao), .val (.long u), .second] [(.long u), (.ref ao)])) _
    exact kt)
  obtain ⟨T5, h5, X5, e5, W5, ls5⟩ := putF X2 hx hZ hown (host := "") (Or.inl (hw _ (List.mem_of_getElem? (i := 16) rfl))) Via.refl e2 F_bytes_ao E_ao (Or.inr ⟨(hw _ (List.mem_of_getElem? (i := 17) rfl)), rfl, hnm⟩) (hw _ (List.mem_of_getElem? (i := 8) rfl)) (ty := .long) (by decide) rfl rfl (g := (mkF m 6 #[.val (.ref ao), .val (.long u), .second] [(.long u), (.ref ao)])) rfl rfl (hb hby d2_6)
  have N5 := Fr.snoc X5 N0 g_ao
  have f6 := F_bytes_ao.same W5
  have f7 := F_taken_ao.other W5 (Or.inr (slot_ne (Or.inl (hw _ (List.mem_of_getElem? (i := 24) rfl))) (Or.inr (hw _ (List.mem_of_getElem? (i := 17) rfl))) (by decide) (t := .long) (t' := .long) (by decide) (by decide)))
  have f8 := E_ao.wr W5
  have z9 := Nat.le_trans Z0 (Keep.of_wr W5).1
  have k10 := k0.wr W5 (Or.inl (List.mem_of_getElem? (i := 0) rfl))
  have st11 : own_Go p e below (T5.setTop (mkF m 9 #[.val (.ref ao), .val (.long u), .second] [])) (s₁.setTop (entryFrame m #[(.ref ao), (.long u)] 3)) := fun t kt => st4 t (ls5 t kt)
  obtain ⟨fs, hr, hrun, hended, hW, hsame⟩ := X5.leave (v := none) (fun _ => rfl)
  refine ⟨_, _, st11 _ ?_, hrun, hended, _, _, rfl, ?_, ⟨_, rfl⟩, hW, hsame.mono (by decide) (by decide)⟩
  · exact X5.returnOut hx Bd.returns (hb hby d2_9) hr
  · show Q_rm_init Z ao u h0 n0 _ T5.heap _
    rw [e5]
    exact ⟨rfl, N5, k10, f6, f7⟩
def Q_rm_take (Z : State) (ao : Addr) (u : Int64) (ub : Int64) (ut : Int64) (h0 : Heap) (n0 : Nat) (v : Option Value) (h : Heap) (L : List Loc) : Prop := v = none ∧ Fr n0 L ∧ Keep h0 h [ao] ∧ Fld Z h ao "com/example/pactum/pactum/service/Room" "bytes" "J" (.long ub) ∧ Fld Z h ao "com/example/pactum/pactum/service/Room" "taken" "J" (.long (ut + u))
set_option maxRecDepth 65536 in
set_option maxHeartbeats 40000000 in
theorem rm_take (l : Launch) (Z : State) (a0 : Array Value) (hw : ∀ d ∈ tables_1, d.before a0 Z = true) (ws : List Jvm.Cond) (ao : Addr) (u : Int64) (ub : Int64) (ut : Int64) (h0 : Heap) (n0 : Nat) (Z0 : n0 ≤ h0.size) (F_bytes_ao : Fld Z h0 ao "com/example/pactum/pactum/service/Room" "bytes" "J" (.long ub)) (F_taken_ao : Fld Z h0 ao "com/example/pactum/pactum/service/Room" "taken" "J" (.long ut)) (E_ao : Exa Z h0 ao "com/example/pactum/pactum/service/Room") (g_ao : n0 ≤ ao) :
    MetFree l (⟨"com/example/pactum/pactum/service/Room", "take", "(J)V"⟩ : MethodName) (head1 (Jvm.Cond.code (⟨"com/example/pactum/pactum/service/Room", "take", "(J)V"⟩ : MethodName) prog_199_method_5_code 3 none :: ws) ({ frames := 0, cells := 0, slots := 0, locals := 0 } : Room)) (fun a U => a = #[(.ref ao), (.long u)] ∧ Z.Warmed39 U.vm ∧ U.heap = h0) (fun _ _ _ _ _ => True) (fun _ U o U' => ∃ v L, o = .returned v ∧ Q_rm_take Z ao u ub ut h0 n0 v U'.heap L ∧ FrameEnd U o U' L ({ frames := 0, cells := 0, slots := 0, locals := 0 } : Room).cells ({ frames := 0, cells := 0, slots := 0, locals := 0 } : Room).slots) := by
  refine MetFree.of_bodySF (plainFor_of_name own_pn0) hisR ?_
  intro p e s m args below meth c s₁ Bd hml0 hP hK
  obtain ⟨rfl, hZ, hh⟩ := hP
  have hx := Bd.exec
  have hby := Bd.bytes
  have hml : c.maxLocals = 3 := hml0
  have hown : s.vm.findClass "com/example/pactum/pactum/service/Room" = some m.cls := findClass_of_methodNamed Bd.named
  have hnm := (name_of_methodNamed Bd.named Bd.method).1
  have X0 : Stand p l e ({ frames := 0, cells := 0, slots := 0, locals := 0 } : Room) s m #[(.ref ao), (.long u)] below meth c s₁ [] 0 0 := Stand.of_body Bd
  have e0 : s₁.heap = h0 := by rw [← hh, Bd.state]; rfl
  have N0 := Fr.nil n0
  have st0 : own_Go p e below (s₁.setTop (mkF m 0 #[.val (.ref ao), .val (.long u), .second] [])) (s₁.setTop (entryFrame m #[(.ref ao), (.long u)] 3)) := fun t k => castTop (own_ef4_RJ m ao u) k
  have k0 : Keep h0 h0 [ao] := Keep.refl _ _
  have st1 : own_Go p e below (s₁.setTop (mkF m 2 #[.val (.ref ao), .val (.long u), .second] [(.ref ao), (.ref ao)])) (s₁.setTop (entryFrame m #[(.ref ao), (.long u)] 3)) := fun t kt => st0 t (by
    show Steps p.tables e below (s₁.setTop (mkF m 0 #[.val (.ref ao), .val (.long u), .second] [])) _
    refine XS.aloadN X0.here hx rfl (hb hby d4_0) rfl rfl ?_
    show Steps p.tables e below (s₁.setTop (mkF m 1 #[.val (.ref ao), .val (.long u), .second] [(.ref ao)])) _
    refine XS.dup X0.here hx rfl (hb hby d4_1) rfl rfl ?_
    show Steps p.tables e below (s₁.setTop (mkF m 2 #[.val (.ref ao), .val (.long u), .second] [(.ref ao), (.ref ao)])) _
    exact kt)
  obtain ⟨T2, X2, e2, ls2⟩ := getF X0 hx hZ hown (host := "") (Or.inl (hw _ (List.mem_of_getElem? (i := 23) rfl))) Via.refl e0 F_taken_ao (g := (mkF m 2 #[.val (.ref ao), .val (.long u), .second] [(.ref ao), (.ref ao)])) rfl rfl (hb hby d4_2)
  have st3 : own_Go p e below (T2.setTop (mkF m 5 #[.val (.ref ao), .val (.long u), .second] [(.long ut), (.ref ao)])) (s₁.setTop (entryFrame m #[(.ref ao), (.long u)] 3)) := fun t kt => st1 t (ls2 t kt)
  have st4 : own_Go p e below (T2.setTop (mkF m 7 #[.val (.ref ao), .val (.long u), .second] [(.long (ut + u)), (.ref ao)])) (s₁.setTop (entryFrame m #[(.ref ao), (.long u)] 3)) := fun t kt => st3 t (by
    show Steps p.tables e below (T2.setTop (mkF m 5 #[.val (.ref ao), .val (.long u), .second] [(.long ut), (.ref ao)])) _
    refine XS.lloadN X2.here hx rfl (hb hby d4_5) rfl ?_
    show Steps p.tables e below (T2.setTop (mkF m 6 #[.val (.ref ao), .val (.long u), .second] [(.long u), (.long ut), (.ref ao)])) _
    refine XS.ladd X2.here hx rfl (hb hby d4_6) rfl ?_
    show Steps p.tables e below (T2.setTop (mkF m 7 #[.val (.ref ao), .val (.long u), .second] [(.long (ut + u)), (.ref ao)])) _
    exact kt)
  obtain ⟨T5, h5, X5, e5, W5, ls5⟩ := putF X2 hx hZ hown (host := "") (Or.inl (hw _ (List.mem_of_getElem? (i := 23) rfl))) Via.refl e2 F_taken_ao E_ao (Or.inl (hw _ (List.mem_of_getElem? (i := 24) rfl))) (hw _ (List.mem_of_getElem? (i := 8) rfl)) (ty := .long) (by decide) rfl rfl (g := (mkF m 7 #[.val (.ref ao), .val (.long u), .second] [(.long (ut + u)), (.ref ao)])) rfl rfl (hb hby d4_7)
  have N5 := Fr.snoc X5 N0 g_ao
  have f6 := F_bytes_ao.other W5 (Or.inr (slot_ne (Or.inr (hw _ (List.mem_of_getElem? (i := 17) rfl))) (Or.inl (hw _ (List.mem_of_getElem? (i := 24) rfl))) (by decide) (t := .long) (t' := .long) (by decide) (by decide)))
  have f7 := F_taken_ao.same W5
  have f8 := E_ao.wr W5
  have z9 := Nat.le_trans Z0 (Keep.of_wr W5).1
  have k10 := k0.wr W5 (Or.inl (List.mem_of_getElem? (i := 0) rfl))
  have st11 : own_Go p e below (T5.setTop (mkF m 10 #[.val (.ref ao), .val (.long u), .second] [])) (s₁.setTop (entryFrame m #[(.ref ao), (.long u)] 3)) := fun t kt => st4 t (ls5 t kt)
  obtain ⟨fs, hr, hrun, hended, hW, hsame⟩ := X5.leave (v := none) (fun _ => rfl)
  refine ⟨_, _, st11 _ ?_, hrun, hended, _, _, rfl, ?_, ⟨_, rfl⟩, hW, hsame.mono (by decide) (by decide)⟩
  · exact X5.returnOut hx Bd.returns (hb hby d4_10) hr
  · show Q_rm_take Z ao u ub ut h0 n0 _ T5.heap _
    rw [e5]
    exact ⟨rfl, N5, k10, f6, f7⟩
def Q_rm_give (Z : State) (ao : Addr) (u : Int64) (ub : Int64) (ut : Int64) (h0 : Heap) (n0 : Nat) (v : Option Value) (h : Heap) (L : List Loc) : Prop := v = none ∧ Fr n0 L ∧ Keep h0 h [ao] ∧ Fld Z h ao "com/example/pactum/pactum/service/Room" "bytes" "J" (.long ub) ∧ Fld Z h ao "com/example/pactum/pactum/service/Room" "taken" "J" (.long (ut - u))
set_option maxRecDepth 65536 in
set_option maxHeartbeats 40000000 in
theorem rm_give (l : Launch) (Z : State) (a0 : Array Value) (hw : ∀ d ∈ tables_1, d.before a0 Z = true) (ws : List Jvm.Cond) (ao : Addr) (u : Int64) (ub : Int64) (ut : Int64) (h0 : Heap) (n0 : Nat) (Z0 : n0 ≤ h0.size) (F_bytes_ao : Fld Z h0 ao "com/example/pactum/pactum/service/Room" "bytes" "J" (.long ub)) (F_taken_ao : Fld Z h0 ao "com/example/pactum/pactum/service/Room" "taken" "J" (.long ut)) (E_ao : Exa Z h0 ao "com/example/pactum/pactum/service/Room") (g_ao : n0 ≤ ao) :
    MetFree l (⟨"com/example/pactum/pactum/service/Room", "give", "(J)V"⟩ : MethodName) (head1 (Jvm.Cond.code (⟨"com/example/pactum/pactum/service/Room", "give", "(J)V"⟩ : MethodName) prog_199_method_6_code 3 none :: ws) ({ frames := 0, cells := 0, slots := 0, locals := 0 } : Room)) (fun a U => a = #[(.ref ao), (.long u)] ∧ Z.Warmed39 U.vm ∧ U.heap = h0) (fun _ _ _ _ _ => True) (fun _ U o U' => ∃ v L, o = .returned v ∧ Q_rm_give Z ao u ub ut h0 n0 v U'.heap L ∧ FrameEnd U o U' L ({ frames := 0, cells := 0, slots := 0, locals := 0 } : Room).cells ({ frames := 0, cells := 0, slots := 0, locals := 0 } : Room).slots) := by
  refine MetFree.of_bodySF (plainFor_of_name own_pn0) hisR ?_
  intro p e s m args below meth c s₁ Bd hml0 hP hK
  obtain ⟨rfl, hZ, hh⟩ := hP
  have hx := Bd.exec
  have hby := Bd.bytes
  have hml : c.maxLocals = 3 := hml0
  have hown : s.vm.findClass "com/example/pactum/pactum/service/Room" = some m.cls := findClass_of_methodNamed Bd.named
  have hnm := (name_of_methodNamed Bd.named Bd.method).1
  have X0 : Stand p l e ({ frames := 0, cells := 0, slots := 0, locals := 0 } : Room) s m #[(.ref ao), (.long u)] below meth c s₁ [] 0 0 := Stand.of_body Bd
  have e0 : s₁.heap = h0 := by rw [← hh, Bd.state]; rfl
  have N0 := Fr.nil n0
  have st0 : own_Go p e below (s₁.setTop (mkF m 0 #[.val (.ref ao), .val (.long u), .second] [])) (s₁.setTop (entryFrame m #[(.ref ao), (.long u)] 3)) := fun t k => castTop (own_ef5_RJ m ao u) k
  have k0 : Keep h0 h0 [ao] := Keep.refl _ _
  have st1 : own_Go p e below (s₁.setTop (mkF m 2 #[.val (.ref ao), .val (.long u), .second] [(.ref ao), (.ref ao)])) (s₁.setTop (entryFrame m #[(.ref ao), (.long u)] 3)) := fun t kt => st0 t (by
    show Steps p.tables e below (s₁.setTop (mkF m 0 #[.val (.ref ao), .val (.long u), .second] [])) _
    refine XS.aloadN X0.here hx rfl (hb hby d5_0) rfl rfl ?_
    show Steps p.tables e below (s₁.setTop (mkF m 1 #[.val (.ref ao), .val (.long u), .second] [(.ref ao)])) _
    refine XS.dup X0.here hx rfl (hb hby d5_1) rfl rfl ?_
    show Steps p.tables e below (s₁.setTop (mkF m 2 #[.val (.ref ao), .val (.long u), .second] [(.ref ao), (.ref ao)])) _
    exact kt)
  obtain ⟨T2, X2, e2, ls2⟩ := getF X0 hx hZ hown (host := "") (Or.inl (hw _ (List.mem_of_getElem? (i := 23) rfl))) Via.refl e0 F_taken_ao (g := (mkF m 2 #[.val (.ref ao), .val (.long u), .second] [(.ref ao), (.ref ao)])) rfl rfl (hb hby d5_2)
  have st3 : own_Go p e below (T2.setTop (mkF m 5 #[.val (.ref ao), .val (.long u), .second] [(.long ut), (.ref ao)])) (s₁.setTop (entryFrame m #[(.ref ao), (.long u)] 3)) := fun t kt => st1 t (ls2 t kt)
  have st4 : own_Go p e below (T2.setTop (mkF m 7 #[.val (.ref ao), .val (.long u), .second] [(.long (ut - u)), (.ref ao)])) (s₁.setTop (entryFrame m #[(.ref ao), (.long u)] 3)) := fun t kt => st3 t (by
    show Steps p.tables e below (T2.setTop (mkF m 5 #[.val (.ref ao), .val (.long u), .second] [(.long ut), (.ref ao)])) _
    refine XS.lloadN X2.here hx rfl (hb hby d5_5) rfl ?_
    show Steps p.tables e below (T2.setTop (mkF m 6 #[.val (.ref ao), .val (.long u), .second] [(.long u), (.long ut), (.ref ao)])) _
    refine XS.lsub X2.here hx rfl (hb hby d5_6) rfl ?_
    show Steps p.tables e below (T2.setTop (mkF m 7 #[.val (.ref ao), .val (.long u), .second] [(.long (ut - u)), (.ref ao)])) _
    exact kt)
  obtain ⟨T5, h5, X5, e5, W5, ls5⟩ := putF X2 hx hZ hown (host := "") (Or.inl (hw _ (List.mem_of_getElem? (i := 23) rfl))) Via.refl e2 F_taken_ao E_ao (Or.inl (hw _ (List.mem_of_getElem? (i := 24) rfl))) (hw _ (List.mem_of_getElem? (i := 8) rfl)) (ty := .long) (by decide) rfl rfl (g := (mkF m 7 #[.val (.ref ao), .val (.long u), .second] [(.long (ut - u)), (.ref ao)])) rfl rfl (hb hby d5_7)
  have N5 := Fr.snoc X5 N0 g_ao
  have f6 := F_bytes_ao.other W5 (Or.inr (slot_ne (Or.inr (hw _ (List.mem_of_getElem? (i := 17) rfl))) (Or.inl (hw _ (List.mem_of_getElem? (i := 24) rfl))) (by decide) (t := .long) (t' := .long) (by decide) (by decide)))
  have f7 := F_taken_ao.same W5
  have f8 := E_ao.wr W5
  have z9 := Nat.le_trans Z0 (Keep.of_wr W5).1
  have k10 := k0.wr W5 (Or.inl (List.mem_of_getElem? (i := 0) rfl))
  have st11 : own_Go p e below (T5.setTop (mkF m 10 #[.val (.ref ao), .val (.long u), .second] [])) (s₁.setTop (entryFrame m #[(.ref ao), (.long u)] 3)) := fun t kt => st4 t (ls5 t kt)
  obtain ⟨fs, hr, hrun, hended, hW, hsame⟩ := X5.leave (v := none) (fun _ => rfl)
  refine ⟨_, _, st11 _ ?_, hrun, hended, _, _, rfl, ?_, ⟨_, rfl⟩, hW, hsame.mono (by decide) (by decide)⟩
  · exact X5.returnOut hx Bd.returns (hb hby d5_10) hr
  · show Q_rm_give Z ao u ub ut h0 n0 _ T5.heap _
    rw [e5]
    exact ⟨rfl, N5, k10, f6, f7⟩
def Q_rm_taken (Z : State) (ao : Addr) (ub : Int64) (ut : Int64) (h0 : Heap) (n0 : Nat) (v : Option Value) (h : Heap) (L : List Loc) : Prop := v = some (.long ut) ∧ Fr n0 L ∧ h = h0
set_option maxRecDepth 65536 in
set_option maxHeartbeats 40000000 in
theorem rm_taken (l : Launch) (Z : State) (a0 : Array Value) (hw : ∀ d ∈ tables_1, d.before a0 Z = true) (ws : List Jvm.Cond) (ao : Addr) (ub : Int64) (ut : Int64) (h0 : Heap) (n0 : Nat) (Z0 : n0 ≤ h0.size) (F_bytes_ao : Fld Z h0 ao "com/example/pactum/pactum/service/Room" "bytes" "J" (.long ub)) (F_taken_ao : Fld Z h0 ao "com/example/pactum/pactum/service/Room" "taken" "J" (.long ut)) :
    MetFree l (⟨"com/example/pactum/pactum/service/Room", "taken", "()J"⟩ : MethodName) (head1 (Jvm.Cond.code (⟨"com/example/pactum/pactum/service/Room", "taken", "()J"⟩ : MethodName) prog_199_method_3_code 1 (some .long) :: ws) ({ frames := 0, cells := 0, slots := 0, locals := 0 } : Room)) (fun a U => a = #[(.ref ao)] ∧ Z.Warmed39 U.vm ∧ U.heap = h0) (fun _ _ _ _ _ => True) (fun _ U o U' => ∃ v L, o = .returned v ∧ Q_rm_taken Z ao ub ut h0 n0 v U'.heap L ∧ FrameEnd U o U' L ({ frames := 0, cells := 0, slots := 0, locals := 0 } : Room).cells ({ frames := 0, cells := 0, slots := 0, locals := 0 } : Room).slots) := by
  refine MetFree.of_bodySF (plainFor_of_name own_pn0) hisR ?_
  intro p e s m args below meth c s₁ Bd hml0 hP hK
  obtain ⟨rfl, hZ, hh⟩ := hP
  have hx := Bd.exec
  have hby := Bd.bytes
  have hml : c.maxLocals = 1 := hml0
  have hown : s.vm.findClass "com/example/pactum/pactum/service/Room" = some m.cls := findClass_of_methodNamed Bd.named
  have hnm := (name_of_methodNamed Bd.named Bd.method).1
  have X0 : Stand p l e ({ frames := 0, cells := 0, slots := 0, locals := 0 } : Room) s m #[(.ref ao)] below meth c s₁ [] 0 0 := Stand.of_body Bd
  have e0 : s₁.heap = h0 := by rw [← hh, Bd.state]; rfl
  have N0 := Fr.nil n0
  have st0 : own_Go p e below (s₁.setTop (mkF m 0 #[.val (.ref ao)] [])) (s₁.setTop (entryFrame m #[(.ref ao)] 1)) := fun t k => castTop (own_ef6_R m ao) k
  have st1 : own_Go p e below (s₁.setTop (mkF m 1 #[.val (.ref ao)] [(.ref ao)])) (s₁.setTop (entryFrame m #[(.ref ao)] 1)) := fun t kt => st0 t (by
    show Steps p.tables e below (s₁.setTop (mkF m 0 #[.val (.ref ao)] [])) _
    refine XS.aloadN X0.here hx rfl (hb hby d6_0) rfl rfl ?_
    show Steps p.tables e below (s₁.setTop (mkF m 1 #[.val (.ref ao)] [(.ref ao)])) _
    exact kt)
  obtain ⟨T2, X2, e2, ls2⟩ := getF X0 hx hZ hown (host := "") (Or.inl (hw _ (List.mem_of_getElem? (i := 23) rfl))) Via.refl e0 F_taken_ao (g := (mkF m 1 #[.val (.ref ao)] [(.ref ao)])) rfl rfl (hb hby d6_1)
  have st3 : own_Go p e below (T2.setTop (mkF m 4 #[.val (.ref ao)] [(.long ut)])) (s₁.setTop (entryFrame m #[(.ref ao)] 1)) := fun t kt => st1 t (ls2 t kt)
  obtain ⟨fs, hr, hrun, hended, hW, hsame⟩ := X2.leave (v := (some (.long ut))) (fun h => by rw [Bd.returns] at h; cases h)
  refine ⟨_, _, st3 _ ?_, hrun, hended, _, _, rfl, ?_, ⟨_, rfl⟩, hW, hsame.mono (by decide) (by decide)⟩
  · exact retOut X2 hx Bd.returns rfl (Or.inr (Or.inl ⟨rfl, rfl, _, rfl⟩)) (hb hby d6_4) hr
  · show Q_rm_taken Z ao ub ut h0 n0 _ T2.heap _
    rw [e2]
    exact ⟨rfl, N0, rfl⟩
def Q_rm_holds (Z : State) (ao : Addr) (u : Int64) (ub : Int64) (ut : Int64) (h0 : Heap) (n0 : Nat) (v : Option Value) (h : Heap) (L : List Loc) : Prop := v = some (.int (own_hold ut u ub)) ∧ Fr n0 L ∧ h = h0
set_option maxRecDepth 65536 in
set_option maxHeartbeats 40000000 in
theorem rm_holds (l : Launch) (Z : State) (a0 : Array Value) (hw : ∀ d ∈ tables_1, d.before a0 Z = true) (ws : List Jvm.Cond) (ao : Addr) (u : Int64) (ub : Int64) (ut : Int64) (h0 : Heap) (n0 : Nat) (Z0 : n0 ≤ h0.size) (F_bytes_ao : Fld Z h0 ao "com/example/pactum/pactum/service/Room" "bytes" "J" (.long ub)) (F_taken_ao : Fld Z h0 ao "com/example/pactum/pactum/service/Room" "taken" "J" (.long ut)) :
    MetFree l (⟨"com/example/pactum/pactum/service/Room", "holds", "(J)Z"⟩ : MethodName) (head1 (Jvm.Cond.code (⟨"com/example/pactum/pactum/service/Room", "holds", "(J)Z"⟩ : MethodName) prog_199_method_4_code 3 (some .boolean) :: ws) ({ frames := 0, cells := 0, slots := 0, locals := 0 } : Room)) (fun a U => a = #[(.ref ao), (.long u)] ∧ Z.Warmed39 U.vm ∧ U.heap = h0) (fun _ _ _ _ _ => True) (fun _ U o U' => ∃ v L, o = .returned v ∧ Q_rm_holds Z ao u ub ut h0 n0 v U'.heap L ∧ FrameEnd U o U' L ({ frames := 0, cells := 0, slots := 0, locals := 0 } : Room).cells ({ frames := 0, cells := 0, slots := 0, locals := 0 } : Room).slots) := by
  refine MetFree.of_bodySF (plainFor_of_name own_pn0) hisR ?_
  intro p e s m args below meth c s₁ Bd hml0 hP hK
  obtain ⟨rfl, hZ, hh⟩ := hP
  have hx := Bd.exec
  have hby := Bd.bytes
  have hml : c.maxLocals = 3 := hml0
  have hown : s.vm.findClass "com/example/pactum/pactum/service/Room" = some m.cls := findClass_of_methodNamed Bd.named
  have hnm := (name_of_methodNamed Bd.named Bd.method).1
  have X0 : Stand p l e ({ frames := 0, cells := 0, slots := 0, locals := 0 } : Room) s m #[(.ref ao), (.long u)] below meth c s₁ [] 0 0 := Stand.of_body Bd
  have e0 : s₁.heap = h0 := by rw [← hh, Bd.state]; rfl
  have N0 := Fr.nil n0
  have st0 : own_Go p e below (s₁.setTop (mkF m 0 #[.val (.ref ao), .val (.long u), .second] [])) (s₁.setTop (entryFrame m #[(.ref ao), (.long u)] 3)) := fun t k => castTop (own_ef7_RJ m ao u) k
  have st1 : own_Go p e below (s₁.setTop (mkF m 1 #[.val (.ref ao), .val (.long u), .second] [(.ref ao)])) (s₁.setTop (entryFrame m #[(.ref ao), (.long u)] 3)) := fun t kt => st0 t (by
    show Steps p.tables e below (s₁.setTop (mkF m 0 #[.val (.ref ao), .val (.long u), .second] [])) _
    refine XS.aloadN X0.here hx rfl (hb hby d7_0) rfl rfl ?_
    show Steps p.tables e below (s₁.setTop (mkF m 1 #[.val (.ref ao), .val (.long u), .second] [(.ref ao)])) _
    exact kt)
  obtain ⟨T2, X2, e2, ls2⟩ := getF X0 hx hZ hown (host := "") (Or.inl (hw _ (List.mem_of_getElem? (i := 23) rfl))) Via.refl e0 F_taken_ao (g := (mkF m 1 #[.val (.ref ao), .val (.long u), .second] [(.ref ao)])) rfl rfl (hb hby d7_1)
  have st3 : own_Go p e below (T2.setTop (mkF m 4 #[.val (.ref ao), .val (.long u), .second] [(.long ut)])) (s₁.setTop (entryFrame m #[(.ref ao), (.long u)] 3)) := fun t kt => st1 t (ls2 t kt)
  have st4 : own_Go p e below (T2.setTop (mkF m 7 #[.val (.ref ao), .val (.long u), .second] [(.ref ao), (.long (ut + u))])) (s₁.setTop (entryFrame m #[(.ref ao), (.long u)] 3)) := fun t kt => st3 t (by
    show Steps p.tables e below (T2.setTop (mkF m 4 #[.val (.ref ao), .val (.long u), .second] [(.long ut)])) _
    refine XS.lloadN X2.here hx rfl (hb hby d7_4) rfl ?_
    show Steps p.tables e below (T2.setTop (mkF m 5 #[.val (.ref ao), .val (.long u), .second] [(.long u), (.long ut)])) _
    refine XS.ladd X2.here hx rfl (hb hby d7_5) rfl ?_
    show Steps p.tables e below (T2.setTop (mkF m 6 #[.val (.ref ao), .val (.long u), .second] [(.long (ut + u))])) _
    refine XS.aloadN X2.here hx rfl (hb hby d7_6) rfl rfl ?_
    show Steps p.tables e below (T2.setTop (mkF m 7 #[.val (.ref ao), .val (.long u), .second] [(.ref ao), (.long (ut + u))])) _
    exact kt)
  obtain ⟨T5, X5, e5, ls5⟩ := getF X2 hx hZ hown (host := "") (Or.inl (hw _ (List.mem_of_getElem? (i := 16) rfl))) Via.refl e2 F_bytes_ao (g := (mkF m 7 #[.val (.ref ao), .val (.long u), .second] [(.ref ao), (.long (ut + u))])) rfl rfl (hb hby d7_7)
  have st6 : own_Go p e below (T5.setTop (mkF m 10 #[.val (.ref ao), .val (.long u), .second] [(.long ub), (.long (ut + u))])) (s₁.setTop (entryFrame m #[(.ref ao), (.long u)] 3)) := fun t kt => st4 t (ls5 t kt)
  have st7 : own_Go p e below (T5.setTop (mkF m 11 #[.val (.ref ao), .val (.long u), .second] [(.int (lcmpW (ut + u) ub))])) (s₁.setTop (entryFrame m #[(.ref ao), (.long u)] 3)) := fun t kt => st6 t (by
    show Steps p.tables e below (T5.setTop (mkF m 10 #[.val (.ref ao), .val (.long u), .second] [(.long ub), (.long (ut + u))])) _
    refine XS.lcmp X5.here hx rfl (hb hby d7_10) rfl ?_
    show Steps p.tables e below (T5.setTop (mkF m 11 #[.val (.ref ao), .val (.long u), .second] [(.int (lcmpW (ut + u) ub))])) _
    exact kt)
  by_cases q1 : ub < (ut + u)
  · have st8 : own_Go p e below (T5.setTop (mkF m 19 #[.val (.ref ao), .val (.long u), .second] [(.int (0 : Int32))])) (s₁.setTop (entryFrame m #[(.ref ao), (.long u)] 3)) := fun t kt => st7 t (by
      show Steps p.tables e below (T5.setTop (mkF m 11 #[.val (.ref ao), .val (.long u), .second] [(.int (lcmpW (ut + u) ub))])) _
      refine XS.ifYes X5.here hx rfl (pc0 := 11) (pc' := 18) rfl (hb hby d7_11) rfl ((if0 _ _).trans (tlt ((lw_gt _ _).mpr q1)).2.2.1) (by decide) (by decide) ?_
      show Steps p.tables e below (T5.setTop (mkF m 18 #[.val (.ref ao), .val (.long u), .second] [])) _
      refine XS.iconst X5.here hx rfl (hb hby d7_18) ?_
      show Steps p.tables e below (T5.setTop (mkF m 19 #[.val (.ref ao), .val (.long u), .second] [(.int (0 : Int32))])) _
      exact kt)
    obtain ⟨fs, hr, hrun, hended, hW, hsame⟩ := X5.leave (v := (some (.int (0 : Int32)))) (fun h => by rw [Bd.returns] at h; cases h)
    refine ⟨_, _, st8 _ ?_, hrun, hended, _, _, rfl, ?_, ⟨_, rfl⟩, hW, hsame.mono (by decide) (by decide)⟩
    · exact retN X5 hx (t := .boolean) Bd.returns (by simp) (hb hby d7_19) hr
    · show Q_rm_holds Z ao u ub ut h0 n0 _ T5.heap _
      rw [e5]
      exact ⟨by simp [own_hold, q1], N0, rfl⟩
  · have st9 : own_Go p e below (T5.setTop (mkF m 19 #[.val (.ref ao), .val (.long u), .second] [(.int (1 : Int32))])) (s₁.setTop (entryFrame m #[(.ref ao), (.long u)] 3)) := fun t kt => st7 t (by
      show Steps p.tables e below (T5.setTop (mkF m 11 #[.val (.ref ao), .val (.long u), .second] [(.int (lcmpW (ut + u) ub))])) _
      refine XS.ifNo X5.here hx rfl (hb hby d7_11) rfl ((if0 _ _).trans (flt (fun q => q1 ((lw_gt _ _).mp q))).2.2.1) ?_
      show Steps p.tables e below (T5.setTop (mkF m 14 #[.val (.ref ao), .val (.long u), .second] [])) _
      refine XS.iconst X5.here hx rfl (hb hby d7_14) ?_
      show Steps p.tables e below (T5.setTop (mkF m 15 #[.val (.ref ao), .val (.long u), .second] [(.int (1 : Int32))])) _
      refine XS.goto X5.here hx rfl (pc0 := 15) (pc' := 19) rfl (hb hby d7_15) (by decide) (by decide) ?_
      show Steps p.tables e below (T5.setTop (mkF m 19 #[.val (.ref ao), .val (.long u), .second] [(.int (1 : Int32))])) _
      exact kt)
    obtain ⟨fs, hr, hrun, hended, hW, hsame⟩ := X5.leave (v := (some (.int (1 : Int32)))) (fun h => by rw [Bd.returns] at h; cases h)
    refine ⟨_, _, st9 _ ?_, hrun, hended, _, _, rfl, ?_, ⟨_, rfl⟩, hW, hsame.mono (by decide) (by decide)⟩
    · exact retN X5 hx (t := .boolean) Bd.returns (by simp) (hb hby d7_19) hr
    · show Q_rm_holds Z ao u ub ut h0 n0 _ T5.heap _
      rw [e5]
      exact ⟨by simp [own_hold, q1], N0, rfl⟩
def Q_rm_law (Z : State) (xb : Int64) (xt : Int64) (xg : Int64) (xm : Int64) (xo : Int32) (h0 : Heap) (n0 : Nat) (v : Option Value) (h : Heap) (L : List Loc) : Prop := v = some (.int 1) ∧ Fr n0 L
set_option maxRecDepth 65536 in
set_option maxHeartbeats 40000000 in
theorem rm_law (l : Launch) (Z : State) (a0 : Array Value) (hw : ∀ d ∈ tables_1, d.before a0 Z = true) (ws : List Jvm.Cond) (xb : Int64) (xt : Int64) (xg : Int64) (xm : Int64) (xo : Int32) (h0 : Heap) (n0 : Nat) (Z0 : n0 ≤ h0.size) :
    MetFree l x (head1 (Jvm.Cond.code x code maxLocals ret :: ws) room_1) (fun a U => a = #[(.long xb), (.long xt), (.long xg), (.long xm), (.int xo)] ∧ Z.Warmed39 U.vm ∧ U.heap = h0) (fun _ _ _ _ _ => True) (fun _ U o U' => ∃ v L, o = .returned v ∧ Q_rm_law Z xb xt xg xm xo h0 n0 v U'.heap L ∧ FrameEnd U o U' L room_1.cells room_1.slots) := by
  refine MetFree.of_bodySF (plainFor_of_name own_pn1) hisR ?_
  intro p e s m args below meth c s₁ Bd hml0 hP hK
  obtain ⟨rfl, hZ, hh⟩ := hP
  have hx := Bd.exec
  have hby := Bd.bytes
  have hml : c.maxLocals = 25 := hml0
  have hown : s.vm.findClass "com/example/pactum/pactum/service/RoomHoldsPinLaw" = some m.cls := findClass_of_methodNamed Bd.named
  have hnm := (name_of_methodNamed Bd.named Bd.method).1
  have X0 : Stand p l e room_1 s m #[(.long xb), (.long xt), (.long xg), (.long xm), (.int xo)] below meth c s₁ [] 0 0 := Stand.of_body Bd
  have e0 : s₁.heap = h0 := by rw [← hh, Bd.state]; rfl
  have N0 := Fr.nil n0
  have st0 : own_Go p e below (s₁.setTop (mkF m 0 #[.val (.long xb), .second, .val (.long xt), .second, .val (.long xg), .second, .val (.long xm), .second, .val (.int xo), .unset, .unset, .unset, .unset, .unset, .unset, .unset, .unset, .unset, .unset, .unset, .unset, .unset, .unset, .unset, .unset] [])) (s₁.setTop (entryFrame m #[(.long xb), (.long xt), (.long xg), (.long xm), (.int xo)] maxLocals)) := fun t k => castTop (own_ef0_JJJJI m xb xt xg xm xo) k
  obtain ⟨by1, h_by1⟩ : ∃ z : Int64, z = (xb &&& (4611686018427387903 : Int64)) := ⟨_, rfl⟩
  obtain ⟨t1, h_t1⟩ : ∃ z : Int64, z = (xt &&& (4611686018427387903 : Int64)) := ⟨_, rfl⟩
  obtain ⟨g0, h_g0⟩ : ∃ z : Int64, z = (xg &&& (4611686018427387903 : Int64)) := ⟨_, rfl⟩
  have st1 : own_Go p e below (s₁.setTop (mkF m 22 #[.val (.long xb), .second, .val (.long xt), .second, .val (.long xg), .second, .val (.long xm), .second, .val (.int xo), .val (.long by1), .second, .val (.long t1), .second, .unset, .unset, .unset, .unset, .unset, .unset, .unset, .unset, .unset, .unset, .unset, .unset] [(.long t1), (.long g0)])) (s₁.setTop (entryFrame m #[(.long xb), (.long xt), (.long xg), (.long xm), (.int xo)] maxLocals)) := fun t kt => st0 t (by
    show Steps p.tables e below (s₁.setTop (mkF m 0 #[.val (.long xb), .second, .val (.long xt), .second, .val (.long xg), .second, .val (.long xm), .second, .val (.int xo), .unset, .unset, .unset, .unset, .unset, .unset, .unset, .unset, .unset, .unset, .unset, .unset, .unset, .unset, .unset, .unset] [])) _
    refine XS.lloadN X0.here hx rfl (hb hby at_0) rfl ?_
    show Steps p.tables e below (s₁.setTop (mkF m 1 #[.val (.long xb), .second, .val (.long xt), .second, .val (.long xg), .second, .val (.long xm), .second, .val (.int xo), .unset, .unset, .unset, .unset, .unset, .unset, .unset, .unset, .unset, .unset, .unset, .unset, .unset, .unset, .unset, .unset] [(.long xb)])) _
    refine X0.ldc2Long hx hown (mvT hZ (hw _ (List.mem_of_getElem? (i := 0) rfl))) (g := (mkF m 1 #[.val (.long xb), .second, .val (.long xt), .second, .val (.long xg), .second, .val (.long xm), .second, .val (.int xo), .unset, .unset, .unset, .unset, .unset, .unset, .unset, .unset, .unset, .unset, .unset, .unset, .unset, .unset, .unset, .unset] [(.long xb)])) rfl (hb hby at_1) _ ?_
    show Steps p.tables e below (s₁.setTop (mkF m 4 #[.val (.long xb), .second, .val (.long xt), .second, .val (.long xg), .second, .val (.long xm), .second, .val (.int xo), .unset, .unset, .unset, .unset, .unset, .unset, .unset, .unset, .unset, .unset, .unset, .unset, .unset, .unset, .unset, .unset] [(.long (4611686018427387903 : Int64)), (.long xb)])) _
    refine XS.land X0.here hx rfl (hb hby at_4) rfl ?_
    show Steps p.tables e below (s₁.setTop (mkF m 5 #[.val (.long xb), .second, .val (.long xt), .second, .val (.long xg), .second, .val (.long xm), .second, .val (.int xo), .unset, .unset, .unset, .unset, .unset, .unset, .unset, .unset, .unset, .unset, .unset, .unset, .unset, .unset, .unset, .unset] [(.long (xb &&& (4611686018427387903 : Int64)))])) _
    rw [← h_by1]
    show Steps p.tables e below (s₁.setTop (mkF m 5 #[.val (.long xb), .second, .val (.long xt), .second, .val (.long xg), .second, .val (.long xm), .second, .val (.int xo), .unset, .unset, .unset, .unset, .unset, .unset, .unset, .unset, .unset, .unset, .unset, .unset, .unset, .unset, .unset, .unset] [(.long by1)])) _
    refine XS.lstore X0.here hx rfl (hb hby at_5) rfl (l' := #[.val (.long xb), .second, .val (.long xt), .second, .val (.long xg), .second, .val (.long xm), .second, .val (.int xo), .val (.long by1), .second, .unset, .unset, .unset, .unset, .unset, .unset, .unset, .unset, .unset, .unset, .unset, .unset, .unset, .unset]) rfl ?_
    show Steps p.tables e below (s₁.setTop (mkF m 7 #[.val (.long xb), .second, .val (.long xt), .second, .val (.long xg), .second, .val (.long xm), .second, .val (.int xo), .val (.long by1), .second, .unset, .unset, .unset, .unset, .unset, .unset, .unset, .unset, .unset, .unset, .unset, .unset, .unset, .unset] [])) _
    refine XS.lloadN X0.here hx rfl (hb hby at_7) rfl ?_
    show Steps p.tables e below (s₁.setTop (mkF m 8 #[.val (.long xb), .second, .val (.long xt), .second, .val (.long xg), .second, .val (.long xm), .second, .val (.int xo), .val (.long by1), .second, .unset, .unset, .unset, .unset, .unset, .unset, .unset, .unset, .unset, .unset, .unset, .unset, .unset, .unset] [(.long xt)])) _
    refine X0.ldc2Long hx hown (mvT hZ (hw _ (List.mem_of_getElem? (i := 0) rfl))) (g := (mkF m 8 #[.val (.long xb), .second, .val (.long xt), .second, .val (.long xg), .second, .val (.long xm), .second, .val (.int xo), .val (.long by1), .second, .unset, .unset, .unset, .unset, .unset, .unset, .unset, .unset, .unset, .unset, .unset, .unset, .unset, .unset] [(.long xt)])) rfl (hb hby at_8) _ ?_
    show Steps p.tables e below (s₁.setTop (mkF m 11 #[.val (.long xb), .second, .val (.long xt), .second, .val (.long xg), .second, .val (.long xm), .second, .val (.int xo), .val (.long by1), .second, .unset, .unset, .unset, .unset, .unset, .unset, .unset, .unset, .unset, .unset, .unset, .unset, .unset, .unset] [(.long (4611686018427387903 : Int64)), (.long xt)])) _
    refine XS.land X0.here hx rfl (hb hby at_11) rfl ?_
    show Steps p.tables e below (s₁.setTop (mkF m 12 #[.val (.long xb), .second, .val (.long xt), .second, .val (.long xg), .second, .val (.long xm), .second, .val (.int xo), .val (.long by1), .second, .unset, .unset, .unset, .unset, .unset, .unset, .unset, .unset, .unset, .unset, .unset, .unset, .unset, .unset] [(.long (xt &&& (4611686018427387903 : Int64)))])) _
    rw [← h_t1]
    show Steps p.tables e below (s₁.setTop (mkF m 12 #[.val (.long xb), .second, .val (.long xt), .second, .val (.long xg), .second, .val (.long xm), .second, .val (.int xo), .val (.long by1), .second, .unset, .unset, .unset, .unset, .unset, .unset, .unset, .unset, .unset, .unset, .unset, .unset, .unset, .unset] [(.long t1)])) _
    refine XS.lstore X0.here hx rfl (hb hby at_12) rfl (l' := #[.val (.long xb), .second, .val (.long xt), .second, .val (.long xg), .second, .val (.long xm), .second, .val (.int xo), .val (.long by1), .second, .val (.long t1), .second, .unset, .unset, .unset, .unset, .unset, .unset, .unset, .unset, .unset, .unset, .unset, .unset]) rfl ?_
    show Steps p.tables e below (s₁.setTop (mkF m 14 #[.val (.long xb), .second, .val (.long xt), .second, .val (.long xg), .second, .val (.long xm), .second, .val (.int xo), .val (.long by1), .second, .val (.long t1), .second, .unset, .unset, .unset, .unset, .unset, .unset, .unset, .unset, .unset, .unset, .unset, .unset] [])) _
    refine XS.lload X0.here hx rfl (hb hby at_14) rfl ?_
    show Steps p.tables e below (s₁.setTop (mkF m 16 #[.val (.long xb), .second, .val (.long xt), .second, .val (.long xg), .second, .val (.long xm), .second, .val (.int xo), .val (.long by1), .second, .val (.long t1), .second, .unset, .unset, .unset, .unset, .unset, .unset, .unset, .unset, .unset, .unset, .unset, .unset] [(.long xg)])) _
    refine X0.ldc2Long hx hown (mvT hZ (hw _ (List.mem_of_getElem? (i := 0) rfl))) (g := (mkF m 16 #[.val (.long xb), .second, .val (.long xt), .second, .val (.long xg), .second, .val (.long xm), .second, .val (.int xo), .val (.long by1), .second, .val (.long t1), .second, .unset, .unset, .unset, .unset, .unset, .unset, .unset, .unset, .unset, .unset, .unset, .unset] [(.long xg)])) rfl (hb hby at_16) _ ?_
    show Steps p.tables e below (s₁.setTop (mkF m 19 #[.val (.long xb), .second, .val (.long xt), .second, .val (.long xg), .second, .val (.long xm), .second, .val (.int xo), .val (.long by1), .second, .val (.long t1), .second, .unset, .unset, .unset, .unset, .unset, .unset, .unset, .unset, .unset, .unset, .unset, .unset] [(.long (4611686018427387903 : Int64)), (.long xg)])) _
    refine XS.land X0.here hx rfl (hb hby at_19) rfl ?_
    show Steps p.tables e below (s₁.setTop (mkF m 20 #[.val (.long xb), .second, .val (.long xt), .second, .val (.long xg), .second, .val (.long xm), .second, .val (.int xo), .val (.long by1), .second, .val (.long t1), .second, .unset, .unset, .unset, .unset, .unset, .unset, .unset, .unset, .unset, .unset, .unset, .unset] [(.long (xg &&& (4611686018427387903 : Int64)))])) _
    refine XS.lload X0.here hx rfl (hb hby at_20) rfl ?_
    show Steps p.tables e below (s₁.setTop (mkF m 22 #[.val (.long xb), .second, .val (.long xt), .second, .val (.long xg), .second, .val (.long xm), .second, .val (.int xo), .val (.long by1), .second, .val (.long t1), .second, .unset, .unset, .unset, .unset, .unset, .unset, .unset, .unset, .unset, .unset, .unset, .unset] [(.long t1), (.long (xg &&& (4611686018427387903 : Int64)))])) _
    rw [← h_g0]
    show Steps p.tables e below (s₁.setTop (mkF m 22 #[.val (.long xb), .second, .val (.long xt), .second, .val (.long xg), .second, .val (.long xm), .second, .val (.int xo), .val (.long by1), .second, .val (.long t1), .second, .unset, .unset, .unset, .unset, .unset, .unset, .unset, .unset, .unset, .unset, .unset, .unset] [(.long t1), (.long g0)])) _
    exact kt)
  obtain ⟨_, _, ⟨T2, L2, k2, n2⟩, -, X2, ⟨Lc2, hQ2, l2, y2, z2⟩, ls2⟩ := Jvm.LawKit.callS X0 hx (y := (⟨"java/lang/Math", "min", "(JJ)J"⟩ : MethodName)) hown (mvT hZ (hw _ (List.mem_of_getElem? (i := 1) rfl))) (mvT hZ (hw _ (List.mem_of_getElem? (i := 2) rfl))) (mvT hZ (hw _ (List.mem_of_getElem? (i := 3) rfl))) (mvT hZ (hw _ (List.mem_of_getElem? (i := 4) rfl))) (by decide) (backOf (W := 0) (rm_min l Z a0 hw [] g0 t1 h0 n0 Z0) hZ (hw _ (List.mem_of_getElem? (i := 4) rfl)) (hw _ (List.mem_of_getElem? (i := 3) rfl)) (by decide) (by decide)) (g := (mkF m 22 #[.val (.long xb), .second, .val (.long xt), .second, .val (.long xg), .second, .val (.long xm), .second, .val (.int xo), .val (.long by1), .second, .val (.long t1), .second, .unset, .unset, .unset, .unset, .unset, .unset, .unset, .unset, .unset, .unset, .unset, .unset] [(.long t1), (.long g0)])) rfl (by rw [hml]; rfl) (argsL := [(.long g0), (.long t1)]) (rest := []) (lenOf own_pd0 rfl) rfl (by show 2 * 0 + _ ≤ _; exact Nat.le_of_eq rfl) (hb hby at_22) (fun _ _ => ⟨rfl, e0, (by decide : 0 + 0 ≤ _), (by decide : 0 + 0 ≤ _)⟩)
  dsimp only [Pt.U, Pt.locs, Pt.cells, Pt.slots] at X2 l2 y2 z2 ls2 hQ2
  subst l2 y2 z2
  obtain ⟨rfl, Nq2, eq2⟩ := hQ2
  have N2 := Fr.app N0 Nq2
  have st3 : own_Go p e below (T2.setTop (mkF m 25 #[.val (.long xb), .second, .val (.long xt), .second, .val (.long xg), .second, .val (.long xm), .second, .val (.int xo), .val (.long by1), .second, .val (.long t1), .second, .unset, .unset, .unset, .unset, .unset, .unset, .unset, .unset, .unset, .unset, .unset, .unset] [(.long (own_min g0 t1))])) (s₁.setTop (entryFrame m #[(.long xb), (.long xt), (.long xg), (.long xm), (.int xo)] maxLocals)) := fun t kt => st1 t (ls2 t kt)
  obtain ⟨g1, h_g1⟩ : ∃ z : Int64, z = (own_min g0 t1) := ⟨_, rfl⟩
  obtain ⟨ex1, h_ex1⟩ : ∃ z : Int64, z = (t1 - g1) := ⟨_, rfl⟩
  have r1 := own_mk xb
  rw [← h_by1] at r1
  have r2 := own_mk xt
  rw [← h_t1] at r2
  have r3 := own_mk xg
  rw [← h_g0] at r3
  have r4 := own_ex t1 g0 r2 r3
  rw [← h_g1, ← h_ex1] at r4
  have st4 : own_Go p e below (T2.setTop (mkF m 38 #[.val (.long xb), .second, .val (.long xt), .second, .val (.long xg), .second, .val (.long xm), .second, .val (.int xo), .val (.long by1), .second, .val (.long t1), .second, .val (.long g1), .second, .val (.long ex1), .second, .unset, .unset, .unset, .unset, .unset, .unset, .unset, .unset] [(.int (xo &&& (1 : Int32)))])) (s₁.setTop (entryFrame m #[(.long xb), (.long xt), (.long xg), (.long xm), (.int xo)] maxLocals)) := fun t kt => st3 t (by
    show Steps p.tables e below (T2.setTop (mkF m 25 #[.val (.long xb), .second, .val (.long xt), .second, .val (.long xg), .second, .val (.long xm), .second, .val (.int xo), .val (.long by1), .second, .val (.long t1), .second, .unset, .unset, .unset, .unset, .unset, .unset, .unset, .unset, .unset, .unset, .unset, .unset] [(.long (own_min g0 t1))])) _
    rw [← h_g1]
    show Steps p.tables e below (T2.setTop (mkF m 25 #[.val (.long xb), .second, .val (.long xt), .second, .val (.long xg), .second, .val (.long xm), .second, .val (.int xo), .val (.long by1), .second, .val (.long t1), .second, .unset, .unset, .unset, .unset, .unset, .unset, .unset, .unset, .unset, .unset, .unset, .unset] [(.long g1)])) _
    refine XS.lstore X2.here hx rfl (hb hby at_25) rfl (l' := #[.val (.long xb), .second, .val (.long xt), .second, .val (.long xg), .second, .val (.long xm), .second, .val (.int xo), .val (.long by1), .second, .val (.long t1), .second, .val (.long g1), .second, .unset, .unset, .unset, .unset, .unset, .unset, .unset, .unset, .unset, .unset]) rfl ?_
    show Steps p.tables e below (T2.setTop (mkF m 27 #[.val (.long xb), .second, .val (.long xt), .second, .val (.long xg), .second, .val (.long xm), .second, .val (.int xo), .val (.long by1), .second, .val (.long t1), .second, .val (.long g1), .second, .unset, .unset, .unset, .unset, .unset, .unset, .unset, .unset, .unset, .unset] [])) _
    refine XS.lload X2.here hx rfl (hb hby at_27) rfl ?_
    show Steps p.tables e below (T2.setTop (mkF m 29 #[.val (.long xb), .second, .val (.long xt), .second, .val (.long xg), .second, .val (.long xm), .second, .val (.int xo), .val (.long by1), .second, .val (.long t1), .second, .val (.long g1), .second, .unset, .unset, .unset, .unset, .unset, .unset, .unset, .unset, .unset, .unset] [(.long t1)])) _
    refine XS.lload X2.here hx rfl (hb hby at_29) rfl ?_
    show Steps p.tables e below (T2.setTop (mkF m 31 #[.val (.long xb), .second, .val (.long xt), .second, .val (.long xg), .second, .val (.long xm), .second, .val (.int xo), .val (.long by1), .second, .val (.long t1), .second, .val (.long g1), .second, .unset, .unset, .unset, .unset, .unset, .unset, .unset, .unset, .unset, .unset] [(.long g1), (.long t1)])) _
    refine XS.lsub X2.here hx rfl (hb hby at_31) rfl ?_
    show Steps p.tables e below (T2.setTop (mkF m 32 #[.val (.long xb), .second, .val (.long xt), .second, .val (.long xg), .second, .val (.long xm), .second, .val (.int xo), .val (.long by1), .second, .val (.long t1), .second, .val (.long g1), .second, .unset, .unset, .unset, .unset, .unset, .unset, .unset, .unset, .unset, .unset] [(.long (t1 - g1))])) _
    rw [← h_ex1]
    show Steps p.tables e below (T2.setTop (mkF m 32 #[.val (.long xb), .second, .val (.long xt), .second, .val (.long xg), .second, .val (.long xm), .second, .val (.int xo), .val (.long by1), .second, .val (.long t1), .second, .val (.long g1), .second, .unset, .unset, .unset, .unset, .unset, .unset, .unset, .unset, .unset, .unset] [(.long ex1)])) _
    refine XS.lstore X2.here hx rfl (hb hby at_32) rfl (l' := #[.val (.long xb), .second, .val (.long xt), .second, .val (.long xg), .second, .val (.long xm), .second, .val (.int xo), .val (.long by1), .second, .val (.long t1), .second, .val (.long g1), .second, .val (.long ex1), .second, .unset, .unset, .unset, .unset, .unset, .unset, .unset, .unset]) rfl ?_
    show Steps p.tables e below (T2.setTop (mkF m 34 #[.val (.long xb), .second, .val (.long xt), .second, .val (.long xg), .second, .val (.long xm), .second, .val (.int xo), .val (.long by1), .second, .val (.long t1), .second, .val (.long g1), .second, .val (.long ex1), .second, .unset, .unset, .unset, .unset, .unset, .unset, .unset, .unset] [])) _
    refine XS.iload X2.here hx rfl (hb hby at_34) rfl ?_
    show Steps p.tables e below (T2.setTop (mkF m 36 #[.val (.long xb), .second, .val (.long xt), .second, .val (.long xg), .second, .val (.long xm), .second, .val (.int xo), .val (.long by1), .second, .val (.long t1), .second, .val (.long g1), .second, .val (.long ex1), .second, .unset, .unset, .unset, .unset, .unset, .unset, .unset, .unset] [(.int xo)])) _
    refine XS.iconst X2.here hx rfl (hb hby at_36) ?_
    show Steps p.tables e below (T2.setTop (mkF m 37 #[.val (.long xb), .second, .val (.long xt), .second, .val (.long xg), .second, .val (.long xm), .second, .val (.int xo), .val (.long by1), .second, .val (.long t1), .second, .val (.long g1), .second, .val (.long ex1), .second, .unset, .unset, .unset, .unset, .unset, .unset, .unset, .unset] [(.int (1 : Int32)), (.int xo)])) _
    refine XS.iand X2.here hx rfl (hb hby at_37) rfl ?_
    show Steps p.tables e below (T2.setTop (mkF m 38 #[.val (.long xb), .second, .val (.long xt), .second, .val (.long xg), .second, .val (.long xm), .second, .val (.int xo), .val (.long by1), .second, .val (.long t1), .second, .val (.long g1), .second, .val (.long ex1), .second, .unset, .unset, .unset, .unset, .unset, .unset, .unset, .unset] [(.int (xo &&& (1 : Int32)))])) _
    exact kt)
  obtain ⟨mo, hj5, st5⟩ : ∃ (mo : Int64), (-9223372036854775808 ≤ ex1.toInt + mo.toInt ∧ ex1.toInt + mo.toInt < 9223372036854775808) ∧ own_Go p e below (T2.setTop (mkF m 70 #[.val (.long xb), .second, .val (.long xt), .second, .val (.long xg), .second, .val (.long xm), .second, .val (.int xo), .val (.long by1), .second, .val (.long t1), .second, .val (.long g1), .second, .val (.long ex1), .second, .val (.long mo), .second, .unset, .unset, .unset, .unset, .unset, .unset] [])) (s₁.setTop (entryFrame m #[(.long xb), (.long xt), (.long xg), (.long xm), (.int xo)] maxLocals)) := by
    by_cases q1 : (xo &&& (1 : Int32)) = (0 : Int32)
    · have st6 : own_Go p e below (T2.setTop (mkF m 70 #[.val (.long xb), .second, .val (.long xt), .second, .val (.long xg), .second, .val (.long xm), .second, .val (.int xo), .val (.long by1), .second, .val (.long t1), .second, .val (.long g1), .second, .val (.long ex1), .second, .val (.long (xm &&& (4611686018427387903 : Int64))), .second, .unset, .unset, .unset, .unset, .unset, .unset] [])) (s₁.setTop (entryFrame m #[(.long xb), (.long xt), (.long xg), (.long xm), (.int xo)] maxLocals)) := fun t kt => st4 t (by
        show Steps p.tables e below (T2.setTop (mkF m 38 #[.val (.long xb), .second, .val (.long xt), .second, .val (.long xg), .second, .val (.long xm), .second, .val (.int xo), .val (.long by1), .second, .val (.long t1), .second, .val (.long g1), .second, .val (.long ex1), .second, .unset, .unset, .unset, .unset, .unset, .unset, .unset, .unset] [(.int (xo &&& (1 : Int32)))])) _
        refine XS.ifNo X2.here hx rfl (hb hby at_38) rfl ((if0 _ _).trans (teq q1).2) ?_
        show Steps p.tables e below (T2.setTop (mkF m 41 #[.val (.long xb), .second, .val (.long xt), .second, .val (.long xg), .second, .val (.long xm), .second, .val (.int xo), .val (.long by1), .second, .val (.long t1), .second, .val (.long g1), .second, .val (.long ex1), .second, .unset, .unset, .unset, .unset, .unset, .unset, .unset, .unset] [])) _
        refine XS.lload X2.here hx rfl (hb hby at_41) rfl ?_
        show Steps p.tables e below (T2.setTop (mkF m 43 #[.val (.long xb), .second, .val (.long xt), .second, .val (.long xg), .second, .val (.long xm), .second, .val (.int xo), .val (.long by1), .second, .val (.long t1), .second, .val (.long g1), .second, .val (.long ex1), .second, .unset, .unset, .unset, .unset, .unset, .unset, .unset, .unset] [(.long xm)])) _
        refine X2.ldc2Long hx hown (mvT hZ (hw _ (List.mem_of_getElem? (i := 0) rfl))) (g := (mkF m 43 #[.val (.long xb), .second, .val (.long xt), .second, .val (.long xg), .second, .val (.long xm), .second, .val (.int xo), .val (.long by1), .second, .val (.long t1), .second, .val (.long g1), .second, .val (.long ex1), .second, .unset, .unset, .unset, .unset, .unset, .unset, .unset, .unset] [(.long xm)])) rfl (hb hby at_43) _ ?_
        show Steps p.tables e below (T2.setTop (mkF m 46 #[.val (.long xb), .second, .val (.long xt), .second, .val (.long xg), .second, .val (.long xm), .second, .val (.int xo), .val (.long by1), .second, .val (.long t1), .second, .val (.long g1), .second, .val (.long ex1), .second, .unset, .unset, .unset, .unset, .unset, .unset, .unset, .unset] [(.long (4611686018427387903 : Int64)), (.long xm)])) _
        refine XS.land X2.here hx rfl (hb hby at_46) rfl ?_
        show Steps p.tables e below (T2.setTop (mkF m 47 #[.val (.long xb), .second, .val (.long xt), .second, .val (.long xg), .second, .val (.long xm), .second, .val (.int xo), .val (.long by1), .second, .val (.long t1), .second, .val (.long g1), .second, .val (.long ex1), .second, .unset, .unset, .unset, .unset, .unset, .unset, .unset, .unset] [(.long (xm &&& (4611686018427387903 : Int64)))])) _
        refine XS.lstore X2.here hx rfl (hb hby at_47) rfl (l' := #[.val (.long xb), .second, .val (.long xt), .second, .val (.long xg), .second, .val (.long xm), .second, .val (.int xo), .val (.long by1), .second, .val (.long t1), .second, .val (.long g1), .second, .val (.long ex1), .second, .val (.long (xm &&& (4611686018427387903 : Int64))), .second, .unset, .unset, .unset, .unset, .unset, .unset]) rfl ?_
        show Steps p.tables e below (T2.setTop (mkF m 49 #[.val (.long xb), .second, .val (.long xt), .second, .val (.long xg), .second, .val (.long xm), .second, .val (.int xo), .val (.long by1), .second, .val (.long t1), .second, .val (.long g1), .second, .val (.long ex1), .second, .val (.long (xm &&& (4611686018427387903 : Int64))), .second, .unset, .unset, .unset, .unset, .unset, .unset] [])) _
        refine XS.goto X2.here hx rfl (pc0 := 49) (pc' := 70) rfl (hb hby at_49) (by decide) (by decide) ?_
        show Steps p.tables e below (T2.setTop (mkF m 70 #[.val (.long xb), .second, .val (.long xt), .second, .val (.long xg), .second, .val (.long xm), .second, .val (.int xo), .val (.long by1), .second, .val (.long t1), .second, .val (.long g1), .second, .val (.long ex1), .second, .val (.long (xm &&& (4611686018427387903 : Int64))), .second, .unset, .unset, .unset, .unset, .unset, .unset] [])) _
        exact kt)
      exact ⟨(xm &&& 4611686018427387903), by
        have r5 := own_mk xm
        omega, st6⟩
    · have st7 : own_Go p e below (T2.setTop (mkF m 70 #[.val (.long xb), .second, .val (.long xt), .second, .val (.long xg), .second, .val (.long xm), .second, .val (.int xo), .val (.long by1), .second, .val (.long t1), .second, .val (.long g1), .second, .val (.long ex1), .second, .val (.long ((by1 - ex1) + ((xm &&& (7 : Int64)) - (4 : Int64)))), .second, .unset, .unset, .unset, .unset, .unset, .unset] [])) (s₁.setTop (entryFrame m #[(.long xb), (.long xt), (.long xg), (.long xm), (.int xo)] maxLocals)) := fun t kt => st4 t (by
        show Steps p.tables e below (T2.setTop (mkF m 38 #[.val (.long xb), .second, .val (.long xt), .second, .val (.long xg), .second, .val (.long xm), .second, .val (.int xo), .val (.long by1), .second, .val (.long t1), .second, .val (.long g1), .second, .val (.long ex1), .second, .unset, .unset, .unset, .unset, .unset, .unset, .unset, .unset] [(.int (xo &&& (1 : Int32)))])) _
        refine XS.ifYes X2.here hx rfl (pc0 := 38) (pc' := 52) rfl (hb hby at_38) rfl ((if0 _ _).trans (feq q1).2) (by decide) (by decide) ?_
        show Steps p.tables e below (T2.setTop (mkF m 52 #[.val (.long xb), .second, .val (.long xt), .second, .val (.long xg), .second, .val (.long xm), .second, .val (.int xo), .val (.long by1), .second, .val (.long t1), .second, .val (.long g1), .second, .val (.long ex1), .second, .unset, .unset, .unset, .unset, .unset, .unset, .unset, .unset] [])) _
        refine XS.lload X2.here hx rfl (hb hby at_52) rfl ?_
        show Steps p.tables e below (T2.setTop (mkF m 54 #[.val (.long xb), .second, .val (.long xt), .second, .val (.long xg), .second, .val (.long xm), .second, .val (.int xo), .val (.long by1), .second, .val (.long t1), .second, .val (.long g1), .second, .val (.long ex1), .second, .unset, .unset, .unset, .unset, .unset, .unset, .unset, .unset] [(.long by1)])) _
        refine XS.lload X2.here hx rfl (hb hby at_54) rfl ?_
        show Steps p.tables e below (T2.setTop (mkF m 56 #[.val (.long xb), .second, .val (.long xt), .second, .val (.long xg), .second, .val (.long xm), .second, .val (.int xo), .val (.long by1), .second, .val (.long t1), .second, .val (.long g1), .second, .val (.long ex1), .second, .unset, .unset, .unset, .unset, .unset, .unset, .unset, .unset] [(.long ex1), (.long by1)])) _
        refine XS.lsub X2.here hx rfl (hb hby at_56) rfl ?_
        show Steps p.tables e below (T2.setTop (mkF m 57 #[.val (.long xb), .second, .val (.long xt), .second, .val (.long xg), .second, .val (.long xm), .second, .val (.int xo), .val (.long by1), .second, .val (.long t1), .second, .val (.long g1), .second, .val (.long ex1), .second, .unset, .unset, .unset, .unset, .unset, .unset, .unset, .unset] [(.long (by1 - ex1))])) _
        refine XS.lload X2.here hx rfl (hb hby at_57) rfl ?_
        show Steps p.tables e below (T2.setTop (mkF m 59 #[.val (.long xb), .second, .val (.long xt), .second, .val (.long xg), .second, .val (.long xm), .second, .val (.int xo), .val (.long by1), .second, .val (.long t1), .second, .val (.long g1), .second, .val (.long ex1), .second, .unset, .unset, .unset, .unset, .unset, .unset, .unset, .unset] [(.long xm), (.long (by1 - ex1))])) _
        refine X2.ldc2Long hx hown (mvT hZ (hw _ (List.mem_of_getElem? (i := 5) rfl))) (g := (mkF m 59 #[.val (.long xb), .second, .val (.long xt), .second, .val (.long xg), .second, .val (.long xm), .second, .val (.int xo), .val (.long by1), .second, .val (.long t1), .second, .val (.long g1), .second, .val (.long ex1), .second, .unset, .unset, .unset, .unset, .unset, .unset, .unset, .unset] [(.long xm), (.long (by1 - ex1))])) rfl (hb hby at_59) _ ?_
        show Steps p.tables e below (T2.setTop (mkF m 62 #[.val (.long xb), .second, .val (.long xt), .second, .val (.long xg), .second, .val (.long xm), .second, .val (.int xo), .val (.long by1), .second, .val (.long t1), .second, .val (.long g1), .second, .val (.long ex1), .second, .unset, .unset, .unset, .unset, .unset, .unset, .unset, .unset] [(.long (7 : Int64)), (.long xm), (.long (by1 - ex1))])) _
        refine XS.land X2.here hx rfl (hb hby at_62) rfl ?_
        show Steps p.tables e below (T2.setTop (mkF m 63 #[.val (.long xb), .second, .val (.long xt), .second, .val (.long xg), .second, .val (.long xm), .second, .val (.int xo), .val (.long by1), .second, .val (.long t1), .second, .val (.long g1), .second, .val (.long ex1), .second, .unset, .unset, .unset, .unset, .unset, .unset, .unset, .unset] [(.long (xm &&& (7 : Int64))), (.long (by1 - ex1))])) _
        refine X2.ldc2Long hx hown (mvT hZ (hw _ (List.mem_of_getElem? (i := 6) rfl))) (g := (mkF m 63 #[.val (.long xb), .second, .val (.long xt), .second, .val (.long xg), .second, .val (.long xm), .second, .val (.int xo), .val (.long by1), .second, .val (.long t1), .second, .val (.long g1), .second, .val (.long ex1), .second, .unset, .unset, .unset, .unset, .unset, .unset, .unset, .unset] [(.long (xm &&& (7 : Int64))), (.long (by1 - ex1))])) rfl (hb hby at_63) _ ?_
        show Steps p.tables e below (T2.setTop (mkF m 66 #[.val (.long xb), .second, .val (.long xt), .second, .val (.long xg), .second, .val (.long xm), .second, .val (.int xo), .val (.long by1), .second, .val (.long t1), .second, .val (.long g1), .second, .val (.long ex1), .second, .unset, .unset, .unset, .unset, .unset, .unset, .unset, .unset] [(.long (4 : Int64)), (.long (xm &&& (7 : Int64))), (.long (by1 - ex1))])) _
        refine XS.lsub X2.here hx rfl (hb hby at_66) rfl ?_
        show Steps p.tables e below (T2.setTop (mkF m 67 #[.val (.long xb), .second, .val (.long xt), .second, .val (.long xg), .second, .val (.long xm), .second, .val (.int xo), .val (.long by1), .second, .val (.long t1), .second, .val (.long g1), .second, .val (.long ex1), .second, .unset, .unset, .unset, .unset, .unset, .unset, .unset, .unset] [(.long ((xm &&& (7 : Int64)) - (4 : Int64))), (.long (by1 - ex1))])) _
        refine XS.ladd X2.here hx rfl (hb hby at_67) rfl ?_
        show Steps p.tables e below (T2.setTop (mkF m 68 #[.val (.long xb), .second, .val (.long xt), .second, .val (.long xg), .second, .val (.long xm), .second, .val (.int xo), .val (.long by1), .second, .val (.long t1), .second, .val (.long g1), .second, .val (.long ex1), .second, .unset, .unset, .unset, .unset, .unset, .unset, .unset, .unset] [(.long ((by1 - ex1) + ((xm &&& (7 : Int64)) - (4 : Int64))))])) _
        refine XS.lstore X2.here hx rfl (hb hby at_68) rfl (l' := #[.val (.long xb), .second, .val (.long xt), .second, .val (.long xg), .second, .val (.long xm), .second, .val (.int xo), .val (.long by1), .second, .val (.long t1), .second, .val (.long g1), .second, .val (.long ex1), .second, .val (.long ((by1 - ex1) + ((xm &&& (7 : Int64)) - (4 : Int64)))), .second, .unset, .unset, .unset, .unset, .unset, .unset]) rfl ?_
        show Steps p.tables e below (T2.setTop (mkF m 70 #[.val (.long xb), .second, .val (.long xt), .second, .val (.long xg), .second, .val (.long xm), .second, .val (.int xo), .val (.long by1), .second, .val (.long t1), .second, .val (.long g1), .second, .val (.long ex1), .second, .val (.long ((by1 - ex1) + ((xm &&& (7 : Int64)) - (4 : Int64)))), .second, .unset, .unset, .unset, .unset, .unset, .unset] [])) _
        exact kt)
      exact ⟨((by1 - ex1) + ((xm &&& 7) - 4)), own_m1 by1 ex1 xm r1 r4, st7⟩
  have st8 : own_Go p e below (T2.setTop (mkF m 78 #[.val (.long xb), .second, .val (.long xt), .second, .val (.long xg), .second, .val (.long xm), .second, .val (.int xo), .val (.long by1), .second, .val (.long t1), .second, .val (.long g1), .second, .val (.long ex1), .second, .val (.long mo), .second, .unset, .unset, .unset, .unset, .unset, .unset] [(.int (lcmpW mo (by1 - ex1)))])) (s₁.setTop (entryFrame m #[(.long xb), (.long xt), (.long xg), (.long xm), (.int xo)] maxLocals)) := fun t kt => st5 t (by
    show Steps p.tables e below (T2.setTop (mkF m 70 #[.val (.long xb), .second, .val (.long xt), .second, .val (.long xg), .second, .val (.long xm), .second, .val (.int xo), .val (.long by1), .second, .val (.long t1), .second, .val (.long g1), .second, .val (.long ex1), .second, .val (.long mo), .second, .unset, .unset, .unset, .unset, .unset, .unset] [])) _
    refine XS.lload X2.here hx rfl (hb hby at_70) rfl ?_
    show Steps p.tables e below (T2.setTop (mkF m 72 #[.val (.long xb), .second, .val (.long xt), .second, .val (.long xg), .second, .val (.long xm), .second, .val (.int xo), .val (.long by1), .second, .val (.long t1), .second, .val (.long g1), .second, .val (.long ex1), .second, .val (.long mo), .second, .unset, .unset, .unset, .unset, .unset, .unset] [(.long mo)])) _
    refine XS.lload X2.here hx rfl (hb hby at_72) rfl ?_
    show Steps p.tables e below (T2.setTop (mkF m 74 #[.val (.long xb), .second, .val (.long xt), .second, .val (.long xg), .second, .val (.long xm), .second, .val (.int xo), .val (.long by1), .second, .val (.long t1), .second, .val (.long g1), .second, .val (.long ex1), .second, .val (.long mo), .second, .unset, .unset, .unset, .unset, .unset, .unset] [(.long by1), (.long mo)])) _
    refine XS.lload X2.here hx rfl (hb hby at_74) rfl ?_
    show Steps p.tables e below (T2.setTop (mkF m 76 #[.val (.long xb), .second, .val (.long xt), .second, .val (.long xg), .second, .val (.long xm), .second, .val (.int xo), .val (.long by1), .second, .val (.long t1), .second, .val (.long g1), .second, .val (.long ex1), .second, .val (.long mo), .second, .unset, .unset, .unset, .unset, .unset, .unset] [(.long ex1), (.long by1), (.long mo)])) _
    refine XS.lsub X2.here hx rfl (hb hby at_76) rfl ?_
    show Steps p.tables e below (T2.setTop (mkF m 77 #[.val (.long xb), .second, .val (.long xt), .second, .val (.long xg), .second, .val (.long xm), .second, .val (.int xo), .val (.long by1), .second, .val (.long t1), .second, .val (.long g1), .second, .val (.long ex1), .second, .val (.long mo), .second, .unset, .unset, .unset, .unset, .unset, .unset] [(.long (by1 - ex1)), (.long mo)])) _
    refine XS.lcmp X2.here hx rfl (hb hby at_77) rfl ?_
    show Steps p.tables e below (T2.setTop (mkF m 78 #[.val (.long xb), .second, .val (.long xt), .second, .val (.long xg), .second, .val (.long xm), .second, .val (.int xo), .val (.long by1), .second, .val (.long t1), .second, .val (.long g1), .second, .val (.long ex1), .second, .val (.long mo), .second, .unset, .unset, .unset, .unset, .unset, .unset] [(.int (lcmpW mo (by1 - ex1)))])) _
    exact kt)
  obtain ⟨xe, hj9, st9⟩ : ∃ (xe : Int32), (xe = own_hold ex1 mo by1) ∧ own_Go p e below (T2.setTop (mkF m 88 #[.val (.long xb), .second, .val (.long xt), .second, .val (.long xg), .second, .val (.long xm), .second, .val (.int xo), .val (.long by1), .second, .val (.long t1), .second, .val (.long g1), .second, .val (.long ex1), .second, .val (.long mo), .second, .val (.int xe), .unset, .unset, .unset, .unset, .unset] [])) (s₁.setTop (entryFrame m #[(.long xb), (.long xt), (.long xg), (.long xm), (.int xo)] maxLocals)) := by
    by_cases q1 : (by1 - ex1) < mo
    · have st10 : own_Go p e below (T2.setTop (mkF m 88 #[.val (.long xb), .second, .val (.long xt), .second, .val (.long xg), .second, .val (.long xm), .second, .val (.int xo), .val (.long by1), .second, .val (.long t1), .second, .val (.long g1), .second, .val (.long ex1), .second, .val (.long mo), .second, .val (.int (0 : Int32)), .unset, .unset, .unset, .unset, .unset] [])) (s₁.setTop (entryFrame m #[(.long xb), (.long xt), (.long xg), (.long xm), (.int xo)] maxLocals)) := fun t kt => st8 t (by
        show Steps p.tables e below (T2.setTop (mkF m 78 #[.val (.long xb), .second, .val (.long xt), .second, .val (.long xg), .second, .val (.long xm), .second, .val (.int xo), .val (.long by1), .second, .val (.long t1), .second, .val (.long g1), .second, .val (.long ex1), .second, .val (.long mo), .second, .unset, .unset, .unset, .unset, .unset, .unset] [(.int (lcmpW mo (by1 - ex1)))])) _
        refine XS.ifYes X2.here hx rfl (pc0 := 78) (pc' := 85) rfl (hb hby at_78) rfl ((if0 _ _).trans (tlt ((lw_gt _ _).mpr q1)).2.2.1) (by decide) (by decide) ?_
        show Steps p.tables e below (T2.setTop (mkF m 85 #[.val (.long xb), .second, .val (.long xt), .second, .val (.long xg), .second, .val (.long xm), .second, .val (.int xo), .val (.long by1), .second, .val (.long t1), .second, .val (.long g1), .second, .val (.long ex1), .second, .val (.long mo), .second, .unset, .unset, .unset, .unset, .unset, .unset] [])) _
        refine XS.iconst X2.here hx rfl (hb hby at_85) ?_
        show Steps p.tables e below (T2.setTop (mkF m 86 #[.val (.long xb), .second, .val (.long xt), .second, .val (.long xg), .second, .val (.long xm), .second, .val (.int xo), .val (.long by1), .second, .val (.long t1), .second, .val (.long g1), .second, .val (.long ex1), .second, .val (.long mo), .second, .unset, .unset, .unset, .unset, .unset, .unset] [(.int (0 : Int32))])) _
        refine XS.istore X2.here hx rfl (hb hby at_86) rfl (l' := #[.val (.long xb), .second, .val (.long xt), .second, .val (.long xg), .second, .val (.long xm), .second, .val (.int xo), .val (.long by1), .second, .val (.long t1), .second, .val (.long g1), .second, .val (.long ex1), .second, .val (.long mo), .second, .val (.int (0 : Int32)), .unset, .unset, .unset, .unset, .unset]) rfl ?_
        show Steps p.tables e below (T2.setTop (mkF m 88 #[.val (.long xb), .second, .val (.long xt), .second, .val (.long xg), .second, .val (.long xm), .second, .val (.int xo), .val (.long by1), .second, .val (.long t1), .second, .val (.long g1), .second, .val (.long ex1), .second, .val (.long mo), .second, .val (.int (0 : Int32)), .unset, .unset, .unset, .unset, .unset] [])) _
        exact kt)
      exact ⟨(0 : Int32), by
        unfold own_hold
        rw [if_pos ((own_iff _ _ _ r1 r4 hj5).mp q1)], st10⟩
    · have st11 : own_Go p e below (T2.setTop (mkF m 88 #[.val (.long xb), .second, .val (.long xt), .second, .val (.long xg), .second, .val (.long xm), .second, .val (.int xo), .val (.long by1), .second, .val (.long t1), .second, .val (.long g1), .second, .val (.long ex1), .second, .val (.long mo), .second, .val (.int (1 : Int32)), .unset, .unset, .unset, .unset, .unset] [])) (s₁.setTop (entryFrame m #[(.long xb), (.long xt), (.long xg), (.long xm), (.int xo)] maxLocals)) := fun t kt => st8 t (by
        show Steps p.tables e below (T2.setTop (mkF m 78 #[.val (.long xb), .second, .val (.long xt), .second, .val (.long xg), .second, .val (.long xm), .second, .val (.int xo), .val (.long by1), .second, .val (.long t1), .second, .val (.long g1), .second, .val (.long ex1), .second, .val (.long mo), .second, .unset, .unset, .unset, .unset, .unset, .unset] [(.int (lcmpW mo (by1 - ex1)))])) _
        refine XS.ifNo X2.here hx rfl (hb hby at_78) rfl ((if0 _ _).trans (flt (fun q => q1 ((lw_gt _ _).mp q))).2.2.1) ?_
        show Steps p.tables e below (T2.setTop (mkF m 81 #[.val (.long xb), .second, .val (.long xt), .second, .val (.long xg), .second, .val (.long xm), .second, .val (.int xo), .val (.long by1), .second, .val (.long t1), .second, .val (.long g1), .second, .val (.long ex1), .second, .val (.long mo), .second, .unset, .unset, .unset, .unset, .unset, .unset] [])) _
        refine XS.iconst X2.here hx rfl (hb hby at_81) ?_
        show Steps p.tables e below (T2.setTop (mkF m 82 #[.val (.long xb), .second, .val (.long xt), .second, .val (.long xg), .second, .val (.long xm), .second, .val (.int xo), .val (.long by1), .second, .val (.long t1), .second, .val (.long g1), .second, .val (.long ex1), .second, .val (.long mo), .second, .unset, .unset, .unset, .unset, .unset, .unset] [(.int (1 : Int32))])) _
        refine XS.goto X2.here hx rfl (pc0 := 82) (pc' := 86) rfl (hb hby at_82) (by decide) (by decide) ?_
        show Steps p.tables e below (T2.setTop (mkF m 86 #[.val (.long xb), .second, .val (.long xt), .second, .val (.long xg), .second, .val (.long xm), .second, .val (.int xo), .val (.long by1), .second, .val (.long t1), .second, .val (.long g1), .second, .val (.long ex1), .second, .val (.long mo), .second, .unset, .unset, .unset, .unset, .unset, .unset] [(.int (1 : Int32))])) _
        refine XS.istore X2.here hx rfl (hb hby at_86) rfl (l' := #[.val (.long xb), .second, .val (.long xt), .second, .val (.long xg), .second, .val (.long xm), .second, .val (.int xo), .val (.long by1), .second, .val (.long t1), .second, .val (.long g1), .second, .val (.long ex1), .second, .val (.long mo), .second, .val (.int (1 : Int32)), .unset, .unset, .unset, .unset, .unset]) rfl ?_
        show Steps p.tables e below (T2.setTop (mkF m 88 #[.val (.long xb), .second, .val (.long xt), .second, .val (.long xg), .second, .val (.long xm), .second, .val (.int xo), .val (.long by1), .second, .val (.long t1), .second, .val (.long g1), .second, .val (.long ex1), .second, .val (.long mo), .second, .val (.int (1 : Int32)), .unset, .unset, .unset, .unset, .unset] [])) _
        exact kt)
      exact ⟨(1 : Int32), by
        unfold own_hold
        rw [if_neg fun z => q1 ((own_iff _ _ _ r1 r4 hj5).mpr z)], st11⟩
  obtain ⟨T12, h12, X12, e12, E12, A12, D12, -, ls12⟩ := newO X2 hx hZ hown (hw _ (List.mem_of_getElem? (i := 7) rfl)) (hw _ (List.mem_of_getElem? (i := 8) rfl)) (hw _ (List.mem_of_getElem? (i := 9) rfl)) eq2 (g := (mkF m 88 #[.val (.long xb), .second, .val (.long xt), .second, .val (.long xg), .second, .val (.long xm), .second, .val (.int xo), .val (.long by1), .second, .val (.long t1), .second, .val (.long g1), .second, .val (.long ex1), .second, .val (.long mo), .second, .val (.int xe), .unset, .unset, .unset, .unset, .unset] [])) rfl (hb hby at_88) (by decide) (by decide)
  obtain ⟨b1, g12⟩ : ∃ z, z = h0.size := ⟨_, rfl⟩
  rw [← g12] at A12 D12 ls12
  have g_b1 : n0 ≤ b1 := Nat.le_trans Z0 (Nat.le_of_eq g12.symm)
  have z13 := Nat.le_trans Z0 E12.1
  have f14 : Fld Z h12 b1 "com/example/pactum/pactum/service/Room" "bytes" "J" (.long (0 : Int64)) := D12 (Or.inr (hw _ (List.mem_of_getElem? (i := 17) rfl))) (ty := .long) (by decide)
  have f15 : Fld Z h12 b1 "com/example/pactum/pactum/service/Room" "taken" "J" (.long (0 : Int64)) := D12 (Or.inl (hw _ (List.mem_of_getElem? (i := 24) rfl))) (ty := .long) (by decide)
  have st16 : own_Go p e below (T12.setTop (mkF m 91 #[.val (.long xb), .second, .val (.long xt), .second, .val (.long xg), .second, .val (.long xm), .second, .val (.int xo), .val (.long by1), .second, .val (.long t1), .second, .val (.long g1), .second, .val (.long ex1), .second, .val (.long mo), .second, .val (.int xe), .unset, .unset, .unset, .unset, .unset] [(.ref b1)])) (s₁.setTop (entryFrame m #[(.long xb), (.long xt), (.long xg), (.long xm), (.int xo)] maxLocals)) := fun t kt => st9 t (ls12 t kt)
  have st17 : own_Go p e below (T12.setTop (mkF m 94 #[.val (.long xb), .second, .val (.long xt), .second, .val (.long xg), .second, .val (.long xm), .second, .val (.int xo), .val (.long by1), .second, .val (.long t1), .second, .val (.long g1), .second, .val (.long ex1), .second, .val (.long mo), .second, .val (.int xe), .unset, .unset, .unset, .unset, .unset] [(.long by1), (.ref b1), (.ref b1)])) (s₁.setTop (entryFrame m #[(.long xb), (.long xt), (.long xg), (.long xm), (.int xo)] maxLocals)) := fun t kt => st16 t (by
    show Steps p.tables e below (T12.setTop (mkF m 91 #[.val (.long xb), .second, .val (.long xt), .second, .val (.long xg), .second, .val (.long xm), .second, .val (.int xo), .val (.long by1), .second, .val (.long t1), .second, .val (.long g1), .second, .val (.long ex1), .second, .val (.long mo), .second, .val (.int xe), .unset, .unset, .unset, .unset, .unset] [(.ref b1)])) _
    refine XS.dup X12.here hx rfl (hb hby at_91) rfl rfl ?_
    show Steps p.tables e below (T12.setTop (mkF m 92 #[.val (.long xb), .second, .val (.long xt), .second, .val (.long xg), .second, .val (.long xm), .second, .val (.int xo), .val (.long by1), .second, .val (.long t1), .second, .val (.long g1), .second, .val (.long ex1), .second, .val (.long mo), .second, .val (.int xe), .unset, .unset, .unset, .unset, .unset] [(.ref b1), (.ref b1)])) _
    refine XS.lload X12.here hx rfl (hb hby at_92) rfl ?_
    show Steps p.tables e below (T12.setTop (mkF m 94 #[.val (.long xb), .second, .val (.long xt), .second, .val (.long xg), .second, .val (.long xm), .second, .val (.int xo), .val (.long by1), .second, .val (.long t1), .second, .val (.long g1), .second, .val (.long ex1), .second, .val (.long mo), .second, .val (.int xe), .unset, .unset, .unset, .unset, .unset] [(.long by1), (.ref b1), (.ref b1)])) _
    exact kt)
  obtain ⟨_, _, ⟨T18, L18, k18, n18⟩, -, X18, ⟨Lc18, hQ18, l18, y18, z18⟩, ls18⟩ := X12.specialBack hx (y := (⟨"com/example/pactum/pactum/service/Room", "<init>", "(J)V"⟩ : MethodName)) rfl hown (mvT hZ (hw _ (List.mem_of_getElem? (i := 10) rfl))) (mvT hZ (hw _ (List.mem_of_getElem? (i := 11) rfl))) (mvT hZ (hw _ (List.mem_of_getElem? (i := 12) rfl))) (by decide) (backOf (W := 1) (rm_init l Z a0 hw [] b1 by1 h12 n0 z13 f14 f15 A12 g_b1) hZ (hw _ (List.mem_of_getElem? (i := 12) rfl)) (hw _ (List.mem_of_getElem? (i := 9) rfl)) (by decide) (by decide)) (g := (mkF m 94 #[.val (.long xb), .second, .val (.long xt), .second, .val (.long xg), .second, .val (.long xm), .second, .val (.int xo), .val (.long by1), .second, .val (.long t1), .second, .val (.long g1), .second, .val (.long ex1), .second, .val (.long mo), .second, .val (.int xe), .unset, .unset, .unset, .unset, .unset] [(.long by1), (.ref b1), (.ref b1)])) rfl (by rw [hml]; rfl) (Steps.refl _) (a := b1) (argsL := [(.long by1)]) (rest := [(.ref b1)]) (lenOf own_pd1 rfl) rfl (by show 2 * 0 + _ ≤ _; exact Nat.le_of_eq rfl) (hb hby at_94) (fun _ _ => ⟨rfl, e12, (by decide : 1 + 0 ≤ _), (by decide : 2 + 0 ≤ _)⟩)
  dsimp only [Pt.U, Pt.locs, Pt.cells, Pt.slots] at X18 l18 y18 z18 ls18 hQ18
  subst l18 y18 z18
  obtain ⟨rfl, Nq18, Kq18, Fb18, Ft18⟩ := hQ18
  have N18 := Fr.app N2 Nq18
  have f19 := A12.keep Kq18
  have z22 := Nat.le_trans z13 Kq18.1
  have st23 : own_Go p e below (T18.setTop (mkF m 97 #[.val (.long xb), .second, .val (.long xt), .second, .val (.long xg), .second, .val (.long xm), .second, .val (.int xo), .val (.long by1), .second, .val (.long t1), .second, .val (.long g1), .second, .val (.long ex1), .second, .val (.long mo), .second, .val (.int xe), .unset, .unset, .unset, .unset, .unset] [(.ref b1)])) (s₁.setTop (entryFrame m #[(.long xb), (.long xt), (.long xg), (.long xm), (.int xo)] maxLocals)) := fun t kt => st17 t (ls18.trans kt)
  have st24 : own_Go p e below (T18.setTop (mkF m 103 #[.val (.long xb), .second, .val (.long xt), .second, .val (.long xg), .second, .val (.long xm), .second, .val (.int xo), .val (.long by1), .second, .val (.long t1), .second, .val (.long g1), .second, .val (.long ex1), .second, .val (.long mo), .second, .val (.int xe), .val (.ref b1), .unset, .unset, .unset, .unset] [(.long t1), (.ref b1)])) (s₁.setTop (entryFrame m #[(.long xb), (.long xt), (.long xg), (.long xm), (.int xo)] maxLocals)) := fun t kt => st23 t (by
    show Steps p.tables e below (T18.setTop (mkF m 97 #[.val (.long xb), .second, .val (.long xt), .second, .val (.long xg), .second, .val (.long xm), .second, .val (.int xo), .val (.long by1), .second, .val (.long t1), .second, .val (.long g1), .second, .val (.long ex1), .second, .val (.long mo), .second, .val (.int xe), .unset, .unset, .unset, .unset, .unset] [(.ref b1)])) _
    refine XS.astore X18.here hx rfl (hb hby at_97) rfl rfl (l' := #[.val (.long xb), .second, .val (.long xt), .second, .val (.long xg), .second, .val (.long xm), .second, .val (.int xo), .val (.long by1), .second, .val (.long t1), .second, .val (.long g1), .second, .val (.long ex1), .second, .val (.long mo), .second, .val (.int xe), .val (.ref b1), .unset, .unset, .unset, .unset]) rfl ?_
    show Steps p.tables e below (T18.setTop (mkF m 99 #[.val (.long xb), .second, .val (.long xt), .second, .val (.long xg), .second, .val (.long xm), .second, .val (.int xo), .val (.long by1), .second, .val (.long t1), .second, .val (.long g1), .second, .val (.long ex1), .second, .val (.long mo), .second, .val (.int xe), .val (.ref b1), .unset, .unset, .unset, .unset] [])) _
    refine XS.aload X18.here hx rfl (hb hby at_99) rfl rfl ?_
    show Steps p.tables e below (T18.setTop (mkF m 101 #[.val (.long xb), .second, .val (.long xt), .second, .val (.long xg), .second, .val (.long xm), .second, .val (.int xo), .val (.long by1), .second, .val (.long t1), .second, .val (.long g1), .second, .val (.long ex1), .second, .val (.long mo), .second, .val (.int xe), .val (.ref b1), .unset, .unset, .unset, .unset] [(.ref b1)])) _
    refine XS.lload X18.here hx rfl (hb hby at_101) rfl ?_
    show Steps p.tables e below (T18.setTop (mkF m 103 #[.val (.long xb), .second, .val (.long xt), .second, .val (.long xg), .second, .val (.long xm), .second, .val (.int xo), .val (.long by1), .second, .val (.long t1), .second, .val (.long g1), .second, .val (.long ex1), .second, .val (.long mo), .second, .val (.int xe), .val (.ref b1), .unset, .unset, .unset, .unset] [(.long t1), (.ref b1)])) _
    exact kt)
  obtain ⟨cq25, kq25, q25a, q25b, q25c⟩ := isOf hZ rfl f19
  obtain ⟨_, _, ⟨T25, L25, k25, n25⟩, -, X25, ⟨Lc25, hQ25, l25, y25, z25⟩, ls25⟩ := X18.virtualBack hx (y := (⟨"com/example/pactum/pactum/service/Room", "take", "(J)V"⟩ : MethodName)) (z := (⟨"com/example/pactum/pactum/service/Room", "take", "(J)V"⟩ : MethodName)) hown (mvT hZ (hw _ (List.mem_of_getElem? (i := 18) rfl))) (mvT hZ (hw _ (List.mem_of_getElem? (i := 19) rfl))) (notFace_of_selects (args := #[]) (mvT hZ (hw _ (List.mem_of_getElem? (i := 21) rfl)))) (mvT hZ (hw _ (List.mem_of_getElem? (i := 21) rfl))) (mvT hZ (hw _ (List.mem_of_getElem? (i := 20) rfl))) (by decide) (backOf (W := 0) (rm_take l Z a0 hw [] b1 t1 by1 ((0 : Int64)) T18.heap n0 z22 Fb18 Ft18 f19 g_b1) hZ (hw _ (List.mem_of_getElem? (i := 22) rfl)) (hw _ (List.mem_of_getElem? (i := 9) rfl)) (by decide) (by decide)) q25a q25c (g := (mkF m 103 #[.val (.long xb), .second, .val (.long xt), .second, .val (.long xg), .second, .val (.long xm), .second, .val (.int xo), .val (.long by1), .second, .val (.long t1), .second, .val (.long g1), .second, .val (.long ex1), .second, .val (.long mo), .second, .val (.int xe), .val (.ref b1), .unset, .unset, .unset, .unset] [(.long t1), (.ref b1)])) rfl (by rw [hml]; rfl) (Steps.refl _) (argsL := [(.long t1)]) (rest := []) (lenOf own_pd1 rfl) rfl (by show 2 * 0 + _ ≤ _; exact Nat.le_of_eq rfl) (hb hby at_103) (fun _ _ => ⟨rfl, rfl, (by decide : 1 + 0 ≤ _), (by decide : 2 + 0 ≤ _)⟩)
  dsimp only [Pt.U, Pt.locs, Pt.cells, Pt.slots] at X25 l25 y25 z25 ls25 hQ25
  subst l25 y25 z25
  obtain ⟨rfl, Nq25, Kq25, Fb25, Ft25⟩ := hQ25
  have N25 := Fr.app N18 Nq25
  have f26 := f19.keep Kq25
  have z29 := Nat.le_trans z22 Kq25.1
  have st30 : own_Go p e below (T25.setTop (mkF m 106 #[.val (.long xb), .second, .val (.long xt), .second, .val (.long xg), .second, .val (.long xm), .second, .val (.int xo), .val (.long by1), .second, .val (.long t1), .second, .val (.long g1), .second, .val (.long ex1), .second, .val (.long mo), .second, .val (.int xe), .val (.ref b1), .unset, .unset, .unset, .unset] [])) (s₁.setTop (entryFrame m #[(.long xb), (.long xt), (.long xg), (.long xm), (.int xo)] maxLocals)) := fun t kt => st24 t (ls25.trans kt)
  have st31 : own_Go p e below (T25.setTop (mkF m 110 #[.val (.long xb), .second, .val (.long xt), .second, .val (.long xg), .second, .val (.long xm), .second, .val (.int xo), .val (.long by1), .second, .val (.long t1), .second, .val (.long g1), .second, .val (.long ex1), .second, .val (.long mo), .second, .val (.int xe), .val (.ref b1), .unset, .unset, .unset, .unset] [(.long g1), (.ref b1)])) (s₁.setTop (entryFrame m #[(.long xb), (.long xt), (.long xg), (.long xm), (.int xo)] maxLocals)) := fun t kt => st30 t (by
    show Steps p.tables e below (T25.setTop (mkF m 106 #[.val (.long xb), .second, .val (.long xt), .second, .val (.long xg), .second, .val (.long xm), .second, .val (.int xo), .val (.long by1), .second, .val (.long t1), .second, .val (.long g1), .second, .val (.long ex1), .second, .val (.long mo), .second, .val (.int xe), .val (.ref b1), .unset, .unset, .unset, .unset] [])) _
    refine XS.aload X25.here hx rfl (hb hby at_106) rfl rfl ?_
    show Steps p.tables e below (T25.setTop (mkF m 108 #[.val (.long xb), .second, .val (.long xt), .second, .val (.long xg), .second, .val (.long xm), .second, .val (.int xo), .val (.long by1), .second, .val (.long t1), .second, .val (.long g1), .second, .val (.long ex1), .second, .val (.long mo), .second, .val (.int xe), .val (.ref b1), .unset, .unset, .unset, .unset] [(.ref b1)])) _
    refine XS.lload X25.here hx rfl (hb hby at_108) rfl ?_
    show Steps p.tables e below (T25.setTop (mkF m 110 #[.val (.long xb), .second, .val (.long xt), .second, .val (.long xg), .second, .val (.long xm), .second, .val (.int xo), .val (.long by1), .second, .val (.long t1), .second, .val (.long g1), .second, .val (.long ex1), .second, .val (.long mo), .second, .val (.int xe), .val (.ref b1), .unset, .unset, .unset, .unset] [(.long g1), (.ref b1)])) _
    exact kt)
  obtain ⟨cq32, kq32, q32a, q32b, q32c⟩ := isOf hZ rfl f26
  obtain ⟨_, _, ⟨T32, L32, k32, n32⟩, -, X32, ⟨Lc32, hQ32, l32, y32, z32⟩, ls32⟩ := X25.virtualBack hx (y := (⟨"com/example/pactum/pactum/service/Room", "give", "(J)V"⟩ : MethodName)) (z := (⟨"com/example/pactum/pactum/service/Room", "give", "(J)V"⟩ : MethodName)) hown (mvT hZ (hw _ (List.mem_of_getElem? (i := 25) rfl))) (mvT hZ (hw _ (List.mem_of_getElem? (i := 26) rfl))) (notFace_of_selects (args := #[]) (mvT hZ (hw _ (List.mem_of_getElem? (i := 28) rfl)))) (mvT hZ (hw _ (List.mem_of_getElem? (i := 28) rfl))) (mvT hZ (hw _ (List.mem_of_getElem? (i := 27) rfl))) (by decide) (backOf (W := 0) (rm_give l Z a0 hw [] b1 g1 by1 (((0 : Int64) + t1)) T25.heap n0 z29 Fb25 Ft25 f26 g_b1) hZ (hw _ (List.mem_of_getElem? (i := 29) rfl)) (hw _ (List.mem_of_getElem? (i := 9) rfl)) (by decide) (by decide)) q32a q32c (g := (mkF m 110 #[.val (.long xb), .second, .val (.long xt), .second, .val (.long xg), .second, .val (.long xm), .second, .val (.int xo), .val (.long by1), .second, .val (.long t1), .second, .val (.long g1), .second, .val (.long ex1), .second, .val (.long mo), .second, .val (.int xe), .val (.ref b1), .unset, .unset, .unset, .unset] [(.long g1), (.ref b1)])) rfl (by rw [hml]; rfl) (Steps.refl _) (argsL := [(.long g1)]) (rest := []) (lenOf own_pd1 rfl) rfl (by show 2 * 0 + _ ≤ _; exact Nat.le_of_eq rfl) (hb hby at_110) (fun _ _ => ⟨rfl, rfl, (by decide : 1 + 0 ≤ _), (by decide : 2 + 0 ≤ _)⟩)
  dsimp only [Pt.U, Pt.locs, Pt.cells, Pt.slots] at X32 l32 y32 z32 ls32 hQ32
  subst l32 y32 z32
  obtain ⟨rfl, Nq32, Kq32, Fb32, Ft32⟩ := hQ32
  have N32 := Fr.app N25 Nq32
  have f33 := f26.keep Kq32
  have z36 := Nat.le_trans z29 Kq32.1
  have st37 : own_Go p e below (T32.setTop (mkF m 113 #[.val (.long xb), .second, .val (.long xt), .second, .val (.long xg), .second, .val (.long xm), .second, .val (.int xo), .val (.long by1), .second, .val (.long t1), .second, .val (.long g1), .second, .val (.long ex1), .second, .val (.long mo), .second, .val (.int xe), .val (.ref b1), .unset, .unset, .unset, .unset] [])) (s₁.setTop (entryFrame m #[(.long xb), (.long xt), (.long xg), (.long xm), (.int xo)] maxLocals)) := fun t kt => st31 t (ls32.trans kt)
  have q5 : (((0 : Int64) + t1) - g1) = ex1 := by rw [own_eq, h_ex1]
  have f_tk := Ft32
  rw [q5] at f_tk
  have st38 : own_Go p e below (T32.setTop (mkF m 115 #[.val (.long xb), .second, .val (.long xt), .second, .val (.long xg), .second, .val (.long xm), .second, .val (.int xo), .val (.long by1), .second, .val (.long t1), .second, .val (.long g1), .second, .val (.long ex1), .second, .val (.long mo), .second, .val (.int xe), .val (.ref b1), .unset, .unset, .unset, .unset] [(.ref b1)])) (s₁.setTop (entryFrame m #[(.long xb), (.long xt), (.long xg), (.long xm), (.int xo)] maxLocals)) := fun t kt => st37 t (by
    show Steps p.tables e below (T32.setTop (mkF m 113 #[.val (.long xb), .second, .val (.long xt), .second, .val (.long xg), .second, .val (.long xm), .second, .val (.int xo), .val (.long by1), .second, .val (.long t1), .second, .val (.long g1), .second, .val (.long ex1), .second, .val (.long mo), .second, .val (.int xe), .val (.ref b1), .unset, .unset, .unset, .unset] [])) _
    refine XS.aload X32.here hx rfl (hb hby at_113) rfl rfl ?_
    show Steps p.tables e below (T32.setTop (mkF m 115 #[.val (.long xb), .second, .val (.long xt), .second, .val (.long xg), .second, .val (.long xm), .second, .val (.int xo), .val (.long by1), .second, .val (.long t1), .second, .val (.long g1), .second, .val (.long ex1), .second, .val (.long mo), .second, .val (.int xe), .val (.ref b1), .unset, .unset, .unset, .unset] [(.ref b1)])) _
    exact kt)
  obtain ⟨cq39, kq39, q39a, q39b, q39c⟩ := isOf hZ rfl f33
  obtain ⟨_, _, ⟨T39, L39, k39, n39⟩, -, X39, ⟨Lc39, hQ39, l39, y39, z39⟩, ls39⟩ := X32.virtualBack hx (y := (⟨"com/example/pactum/pactum/service/Room", "taken", "()J"⟩ : MethodName)) (z := (⟨"com/example/pactum/pactum/service/Room", "taken", "()J"⟩ : MethodName)) hown (mvT hZ (hw _ (List.mem_of_getElem? (i := 30) rfl))) (mvT hZ (hw _ (List.mem_of_getElem? (i := 31) rfl))) (notFace_of_selects (args := #[]) (mvT hZ (hw _ (List.mem_of_getElem? (i := 33) rfl)))) (mvT hZ (hw _ (List.mem_of_getElem? (i := 33) rfl))) (mvT hZ (hw _ (List.mem_of_getElem? (i := 32) rfl))) (by decide) (backOf (W := 0) (rm_taken l Z a0 hw [] b1 by1 ex1 T32.heap n0 z36 Fb32 f_tk) hZ (hw _ (List.mem_of_getElem? (i := 34) rfl)) (hw _ (List.mem_of_getElem? (i := 9) rfl)) (by decide) (by decide)) q39a q39c (g := (mkF m 115 #[.val (.long xb), .second, .val (.long xt), .second, .val (.long xg), .second, .val (.long xm), .second, .val (.int xo), .val (.long by1), .second, .val (.long t1), .second, .val (.long g1), .second, .val (.long ex1), .second, .val (.long mo), .second, .val (.int xe), .val (.ref b1), .unset, .unset, .unset, .unset] [(.ref b1)])) rfl (by rw [hml]; rfl) (Steps.refl _) (argsL := []) (rest := []) (lenOf own_pd2 rfl) rfl (by show 2 * 0 + _ ≤ _; exact Nat.le_of_eq rfl) (hb hby at_115) (fun _ _ => ⟨rfl, rfl, (by decide : 1 + 0 ≤ _), (by decide : 2 + 0 ≤ _)⟩)
  dsimp only [Pt.U, Pt.locs, Pt.cells, Pt.slots] at X39 l39 y39 z39 ls39 hQ39
  subst l39 y39 z39
  obtain ⟨rfl, Nq39, eq39⟩ := hQ39
  have N39 := Fr.app N32 Nq39
  have st40 : own_Go p e below (T39.setTop (mkF m 118 #[.val (.long xb), .second, .val (.long xt), .second, .val (.long xg), .second, .val (.long xm), .second, .val (.int xo), .val (.long by1), .second, .val (.long t1), .second, .val (.long g1), .second, .val (.long ex1), .second, .val (.long mo), .second, .val (.int xe), .val (.ref b1), .unset, .unset, .unset, .unset] [(.long ex1)])) (s₁.setTop (entryFrame m #[(.long xb), (.long xt), (.long xg), (.long xm), (.int xo)] maxLocals)) := fun t kt => st38 t (ls39.trans kt)
  have hc41 : ex1 = ex1 := rfl
  have st42 : own_Go p e below (T39.setTop (mkF m 135 #[.val (.long xb), .second, .val (.long xt), .second, .val (.long xg), .second, .val (.long xm), .second, .val (.int xo), .val (.long by1), .second, .val (.long t1), .second, .val (.long g1), .second, .val (.long ex1), .second, .val (.long mo), .second, .val (.int xe), .val (.ref b1), .val (.int (1 : Int32)), .unset, .unset, .unset] [(.long mo), (.ref b1)])) (s₁.setTop (entryFrame m #[(.long xb), (.long xt), (.long xg), (.long xm), (.int xo)] maxLocals)) := fun t kt => st40 t (by
    show Steps p.tables e below (T39.setTop (mkF m 118 #[.val (.long xb), .second, .val (.long xt), .second, .val (.long xg), .second, .val (.long xm), .second, .val (.int xo), .val (.long by1), .second, .val (.long t1), .second, .val (.long g1), .second, .val (.long ex1), .second, .val (.long mo), .second, .val (.int xe), .val (.ref b1), .unset, .unset, .unset, .unset] [(.long ex1)])) _
    refine XS.lload X39.here hx rfl (hb hby at_118) rfl ?_
    show Steps p.tables e below (T39.setTop (mkF m 120 #[.val (.long xb), .second, .val (.long xt), .second, .val (.long xg), .second, .val (.long xm), .second, .val (.int xo), .val (.long by1), .second, .val (.long t1), .second, .val (.long g1), .second, .val (.long ex1), .second, .val (.long mo), .second, .val (.int xe), .val (.ref b1), .unset, .unset, .unset, .unset] [(.long ex1), (.long ex1)])) _
    refine XS.lcmp X39.here hx rfl (hb hby at_120) rfl ?_
    show Steps p.tables e below (T39.setTop (mkF m 121 #[.val (.long xb), .second, .val (.long xt), .second, .val (.long xg), .second, .val (.long xm), .second, .val (.int xo), .val (.long by1), .second, .val (.long t1), .second, .val (.long g1), .second, .val (.long ex1), .second, .val (.long mo), .second, .val (.int xe), .val (.ref b1), .unset, .unset, .unset, .unset] [(.int (lcmpW ex1 ex1))])) _
    refine XS.ifNo X39.here hx rfl (hb hby at_121) rfl ((if0 _ _).trans (teq ((lw_eq _ _).mpr hc41)).2) ?_
    show Steps p.tables e below (T39.setTop (mkF m 124 #[.val (.long xb), .second, .val (.long xt), .second, .val (.long xg), .second, .val (.long xm), .second, .val (.int xo), .val (.long by1), .second, .val (.long t1), .second, .val (.long g1), .second, .val (.long ex1), .second, .val (.long mo), .second, .val (.int xe), .val (.ref b1), .unset, .unset, .unset, .unset] [])) _
    refine XS.iconst X39.here hx rfl (hb hby at_124) ?_
    show Steps p.tables e below (T39.setTop (mkF m 125 #[.val (.long xb), .second, .val (.long xt), .second, .val (.long xg), .second, .val (.long xm), .second, .val (.int xo), .val (.long by1), .second, .val (.long t1), .second, .val (.long g1), .second, .val (.long ex1), .second, .val (.long mo), .second, .val (.int xe), .val (.ref b1), .unset, .unset, .unset, .unset] [(.int (1 : Int32))])) _
    refine XS.goto X39.here hx rfl (pc0 := 125) (pc' := 129) rfl (hb hby at_125) (by decide) (by decide) ?_
    show Steps p.tables e below (T39.setTop (mkF m 129 #[.val (.long xb), .second, .val (.long xt), .second, .val (.long xg), .second, .val (.long xm), .second, .val (.int xo), .val (.long by1), .second, .val (.long t1), .second, .val (.long g1), .second, .val (.long ex1), .second, .val (.long mo), .second, .val (.int xe), .val (.ref b1), .unset, .unset, .unset, .unset] [(.int (1 : Int32))])) _
    refine XS.istore X39.here hx rfl (hb hby at_129) rfl (l' := #[.val (.long xb), .second, .val (.long xt), .second, .val (.long xg), .second, .val (.long xm), .second, .val (.int xo), .val (.long by1), .second, .val (.long t1), .second, .val (.long g1), .second, .val (.long ex1), .second, .val (.long mo), .second, .val (.int xe), .val (.ref b1), .val (.int (1 : Int32)), .unset, .unset, .unset]) rfl ?_
    show Steps p.tables e below (T39.setTop (mkF m 131 #[.val (.long xb), .second, .val (.long xt), .second, .val (.long xg), .second, .val (.long xm), .second, .val (.int xo), .val (.long by1), .second, .val (.long t1), .second, .val (.long g1), .second, .val (.long ex1), .second, .val (.long mo), .second, .val (.int xe), .val (.ref b1), .val (.int (1 : Int32)), .unset, .unset, .unset] [])) _
    refine XS.aload X39.here hx rfl (hb hby at_131) rfl rfl ?_
    show Steps p.tables e below (T39.setTop (mkF m 133 #[.val (.long xb), .second, .val (.long xt), .second, .val (.long xg), .second, .val (.long xm), .second, .val (.int xo), .val (.long by1), .second, .val (.long t1), .second, .val (.long g1), .second, .val (.long ex1), .second, .val (.long mo), .second, .val (.int xe), .val (.ref b1), .val (.int (1 : Int32)), .unset, .unset, .unset] [(.ref b1)])) _
    refine XS.lload X39.here hx rfl (hb hby at_133) rfl ?_
    show Steps p.tables e below (T39.setTop (mkF m 135 #[.val (.long xb), .second, .val (.long xt), .second, .val (.long xg), .second, .val (.long xm), .second, .val (.int xo), .val (.long by1), .second, .val (.long t1), .second, .val (.long g1), .second, .val (.long ex1), .second, .val (.long mo), .second, .val (.int xe), .val (.ref b1), .val (.int (1 : Int32)), .unset, .unset, .unset] [(.long mo), (.ref b1)])) _
    exact kt)
  obtain ⟨cq43, kq43, q43a, q43b, q43c⟩ := isOf hZ eq39 f33
  obtain ⟨_, _, ⟨T43, L43, k43, n43⟩, -, X43, ⟨Lc43, hQ43, l43, y43, z43⟩, ls43⟩ := X39.virtualBack hx (y := (⟨"com/example/pactum/pactum/service/Room", "holds", "(J)Z"⟩ : MethodName)) (z := (⟨"com/example/pactum/pactum/service/Room", "holds", "(J)Z"⟩ : MethodName)) hown (mvT hZ (hw _ (List.mem_of_getElem? (i := 35) rfl))) (mvT hZ (hw _ (List.mem_of_getElem? (i := 36) rfl))) (notFace_of_selects (args := #[]) (mvT hZ (hw _ (List.mem_of_getElem? (i := 38) rfl)))) (mvT hZ (hw _ (List.mem_of_getElem? (i := 38) rfl))) (mvT hZ (hw _ (List.mem_of_getElem? (i := 37) rfl))) (by decide) (backOf (W := 0) (rm_holds l Z a0 hw [] b1 mo by1 ex1 T32.heap n0 z36 Fb32 f_tk) hZ (hw _ (List.mem_of_getElem? (i := 39) rfl)) (hw _ (List.mem_of_getElem? (i := 9) rfl)) (by decide) (by decide)) q43a q43c (g := (mkF m 135 #[.val (.long xb), .second, .val (.long xt), .second, .val (.long xg), .second, .val (.long xm), .second, .val (.int xo), .val (.long by1), .second, .val (.long t1), .second, .val (.long g1), .second, .val (.long ex1), .second, .val (.long mo), .second, .val (.int xe), .val (.ref b1), .val (.int (1 : Int32)), .unset, .unset, .unset] [(.long mo), (.ref b1)])) rfl (by rw [hml]; rfl) (Steps.refl _) (argsL := [(.long mo)]) (rest := []) (lenOf own_pd3 rfl) rfl (by show 2 * 0 + _ ≤ _; exact Nat.le_of_eq rfl) (hb hby at_135) (fun _ _ => ⟨rfl, eq39, (by decide : 1 + 0 ≤ _), (by decide : 2 + 0 ≤ _)⟩)
  dsimp only [Pt.U, Pt.locs, Pt.cells, Pt.slots] at X43 l43 y43 z43 ls43 hQ43
  subst l43 y43 z43
  obtain ⟨rfl, Nq43, eq43⟩ := hQ43
  have N43 := Fr.app N39 Nq43
  have st44 : own_Go p e below (T43.setTop (mkF m 138 #[.val (.long xb), .second, .val (.long xt), .second, .val (.long xg), .second, .val (.long xm), .second, .val (.int xo), .val (.long by1), .second, .val (.long t1), .second, .val (.long g1), .second, .val (.long ex1), .second, .val (.long mo), .second, .val (.int xe), .val (.ref b1), .val (.int (1 : Int32)), .unset, .unset, .unset] [(.int (own_hold ex1 mo by1))])) (s₁.setTop (entryFrame m #[(.long xb), (.long xt), (.long xg), (.long xm), (.int xo)] maxLocals)) := fun t kt => st42 t (ls43.trans kt)
  have st45 : own_Go p e below (T43.setTop (mkF m 144 #[.val (.long xb), .second, .val (.long xt), .second, .val (.long xg), .second, .val (.long xm), .second, .val (.int xo), .val (.long by1), .second, .val (.long t1), .second, .val (.long g1), .second, .val (.long ex1), .second, .val (.long mo), .second, .val (.int xe), .val (.ref b1), .val (.int (1 : Int32)), .val (.int (own_hold ex1 mo by1)), .unset, .unset] [(.long mo), (.ref b1)])) (s₁.setTop (entryFrame m #[(.long xb), (.long xt), (.long xg), (.long xm), (.int xo)] maxLocals)) := fun t kt => st44 t (by
    show Steps p.tables e below (T43.setTop (mkF m 138 #[.val (.long xb), .second, .val (.long xt), .second, .val (.long xg), .second, .val (.long xm), .second, .val (.int xo), .val (.long by1), .second, .val (.long t1), .second, .val (.long g1), .second, .val (.long ex1), .second, .val (.long mo), .second, .val (.int xe), .val (.ref b1), .val (.int (1 : Int32)), .unset, .unset, .unset] [(.int (own_hold ex1 mo by1))])) _
    refine XS.istore X43.here hx rfl (hb hby at_138) rfl (l' := #[.val (.long xb), .second, .val (.long xt), .second, .val (.long xg), .second, .val (.long xm), .second, .val (.int xo), .val (.long by1), .second, .val (.long t1), .second, .val (.long g1), .second, .val (.long ex1), .second, .val (.long mo), .second, .val (.int xe), .val (.ref b1), .val (.int (1 : Int32)), .val (.int (own_hold ex1 mo by1)), .unset, .unset]) rfl ?_
    show Steps p.tables e below (T43.setTop (mkF m 140 #[.val (.long xb), .second, .val (.long xt), .second, .val (.long xg), .second, .val (.long xm), .second, .val (.int xo), .val (.long by1), .second, .val (.long t1), .second, .val (.long g1), .second, .val (.long ex1), .second, .val (.long mo), .second, .val (.int xe), .val (.ref b1), .val (.int (1 : Int32)), .val (.int (own_hold ex1 mo by1)), .unset, .unset] [])) _
    refine XS.aload X43.here hx rfl (hb hby at_140) rfl rfl ?_
    show Steps p.tables e below (T43.setTop (mkF m 142 #[.val (.long xb), .second, .val (.long xt), .second, .val (.long xg), .second, .val (.long xm), .second, .val (.int xo), .val (.long by1), .second, .val (.long t1), .second, .val (.long g1), .second, .val (.long ex1), .second, .val (.long mo), .second, .val (.int xe), .val (.ref b1), .val (.int (1 : Int32)), .val (.int (own_hold ex1 mo by1)), .unset, .unset] [(.ref b1)])) _
    refine XS.lload X43.here hx rfl (hb hby at_142) rfl ?_
    show Steps p.tables e below (T43.setTop (mkF m 144 #[.val (.long xb), .second, .val (.long xt), .second, .val (.long xg), .second, .val (.long xm), .second, .val (.int xo), .val (.long by1), .second, .val (.long t1), .second, .val (.long g1), .second, .val (.long ex1), .second, .val (.long mo), .second, .val (.int xe), .val (.ref b1), .val (.int (1 : Int32)), .val (.int (own_hold ex1 mo by1)), .unset, .unset] [(.long mo), (.ref b1)])) _
    exact kt)
  obtain ⟨cq46, kq46, q46a, q46b, q46c⟩ := isOf hZ eq43 f33
  obtain ⟨_, _, ⟨T46, L46, k46, n46⟩, -, X46, ⟨Lc46, hQ46, l46, y46, z46⟩, ls46⟩ := X43.virtualBack hx (y := (⟨"com/example/pactum/pactum/service/Room", "holds", "(J)Z"⟩ : MethodName)) (z := (⟨"com/example/pactum/pactum/service/Room", "holds", "(J)Z"⟩ : MethodName)) hown (mvT hZ (hw _ (List.mem_of_getElem? (i := 35) rfl))) (mvT hZ (hw _ (List.mem_of_getElem? (i := 36) rfl))) (notFace_of_selects (args := #[]) (mvT hZ (hw _ (List.mem_of_getElem? (i := 38) rfl)))) (mvT hZ (hw _ (List.mem_of_getElem? (i := 38) rfl))) (mvT hZ (hw _ (List.mem_of_getElem? (i := 37) rfl))) (by decide) (backOf (W := 0) (rm_holds l Z a0 hw [] b1 mo by1 ex1 T32.heap n0 z36 Fb32 f_tk) hZ (hw _ (List.mem_of_getElem? (i := 39) rfl)) (hw _ (List.mem_of_getElem? (i := 9) rfl)) (by decide) (by decide)) q46a q46c (g := (mkF m 144 #[.val (.long xb), .second, .val (.long xt), .second, .val (.long xg), .second, .val (.long xm), .second, .val (.int xo), .val (.long by1), .second, .val (.long t1), .second, .val (.long g1), .second, .val (.long ex1), .second, .val (.long mo), .second, .val (.int xe), .val (.ref b1), .val (.int (1 : Int32)), .val (.int (own_hold ex1 mo by1)), .unset, .unset] [(.long mo), (.ref b1)])) rfl (by rw [hml]; rfl) (Steps.refl _) (argsL := [(.long mo)]) (rest := []) (lenOf own_pd3 rfl) rfl (by show 2 * 0 + _ ≤ _; exact Nat.le_of_eq rfl) (hb hby at_144) (fun _ _ => ⟨rfl, eq43, (by decide : 1 + 0 ≤ _), (by decide : 2 + 0 ≤ _)⟩)
  dsimp only [Pt.U, Pt.locs, Pt.cells, Pt.slots] at X46 l46 y46 z46 ls46 hQ46
  subst l46 y46 z46
  obtain ⟨rfl, Nq46, eq46⟩ := hQ46
  have N46 := Fr.app N43 Nq46
  have st47 : own_Go p e below (T46.setTop (mkF m 147 #[.val (.long xb), .second, .val (.long xt), .second, .val (.long xg), .second, .val (.long xm), .second, .val (.int xo), .val (.long by1), .second, .val (.long t1), .second, .val (.long g1), .second, .val (.long ex1), .second, .val (.long mo), .second, .val (.int xe), .val (.ref b1), .val (.int (1 : Int32)), .val (.int (own_hold ex1 mo by1)), .unset, .unset] [(.int (own_hold ex1 mo by1))])) (s₁.setTop (entryFrame m #[(.long xb), (.long xt), (.long xg), (.long xm), (.int xo)] maxLocals)) := fun t kt => st45 t (ls46.trans kt)
  have st48 : own_Go p e below (T46.setTop (mkF m 151 #[.val (.long xb), .second, .val (.long xt), .second, .val (.long xg), .second, .val (.long xm), .second, .val (.int xo), .val (.long by1), .second, .val (.long t1), .second, .val (.long g1), .second, .val (.long ex1), .second, .val (.long mo), .second, .val (.int xe), .val (.ref b1), .val (.int (1 : Int32)), .val (.int (own_hold ex1 mo by1)), .val (.int (own_hold ex1 mo by1)), .unset] [(.ref b1)])) (s₁.setTop (entryFrame m #[(.long xb), (.long xt), (.long xg), (.long xm), (.int xo)] maxLocals)) := fun t kt => st47 t (by
    show Steps p.tables e below (T46.setTop (mkF m 147 #[.val (.long xb), .second, .val (.long xt), .second, .val (.long xg), .second, .val (.long xm), .second, .val (.int xo), .val (.long by1), .second, .val (.long t1), .second, .val (.long g1), .second, .val (.long ex1), .second, .val (.long mo), .second, .val (.int xe), .val (.ref b1), .val (.int (1 : Int32)), .val (.int (own_hold ex1 mo by1)), .unset, .unset] [(.int (own_hold ex1 mo by1))])) _
    refine XS.istore X46.here hx rfl (hb hby at_147) rfl (l' := #[.val (.long xb), .second, .val (.long xt), .second, .val (.long xg), .second, .val (.long xm), .second, .val (.int xo), .val (.long by1), .second, .val (.long t1), .second, .val (.long g1), .second, .val (.long ex1), .second, .val (.long mo), .second, .val (.int xe), .val (.ref b1), .val (.int (1 : Int32)), .val (.int (own_hold ex1 mo by1)), .val (.int (own_hold ex1 mo by1)), .unset]) rfl ?_
    show Steps p.tables e below (T46.setTop (mkF m 149 #[.val (.long xb), .second, .val (.long xt), .second, .val (.long xg), .second, .val (.long xm), .second, .val (.int xo), .val (.long by1), .second, .val (.long t1), .second, .val (.long g1), .second, .val (.long ex1), .second, .val (.long mo), .second, .val (.int xe), .val (.ref b1), .val (.int (1 : Int32)), .val (.int (own_hold ex1 mo by1)), .val (.int (own_hold ex1 mo by1)), .unset] [])) _
    refine XS.aload X46.here hx rfl (hb hby at_149) rfl rfl ?_
    show Steps p.tables e below (T46.setTop (mkF m 151 #[.val (.long xb), .second, .val (.long xt), .second, .val (.long xg), .second, .val (.long xm), .second, .val (.int xo), .val (.long by1), .second, .val (.long t1), .second, .val (.long g1), .second, .val (.long ex1), .second, .val (.long mo), .second, .val (.int xe), .val (.ref b1), .val (.int (1 : Int32)), .val (.int (own_hold ex1 mo by1)), .val (.int (own_hold ex1 mo by1)), .unset] [(.ref b1)])) _
    exact kt)
  obtain ⟨cq49, kq49, q49a, q49b, q49c⟩ := isOf hZ eq46 f33
  obtain ⟨_, _, ⟨T49, L49, k49, n49⟩, -, X49, ⟨Lc49, hQ49, l49, y49, z49⟩, ls49⟩ := X46.virtualBack hx (y := (⟨"com/example/pactum/pactum/service/Room", "taken", "()J"⟩ : MethodName)) (z := (⟨"com/example/pactum/pactum/service/Room", "taken", "()J"⟩ : MethodName)) hown (mvT hZ (hw _ (List.mem_of_getElem? (i := 30) rfl))) (mvT hZ (hw _ (List.mem_of_getElem? (i := 31) rfl))) (notFace_of_selects (args := #[]) (mvT hZ (hw _ (List.mem_of_getElem? (i := 33) rfl)))) (mvT hZ (hw _ (List.mem_of_getElem? (i := 33) rfl))) (mvT hZ (hw _ (List.mem_of_getElem? (i := 32) rfl))) (by decide) (backOf (W := 0) (rm_taken l Z a0 hw [] b1 by1 ex1 T32.heap n0 z36 Fb32 f_tk) hZ (hw _ (List.mem_of_getElem? (i := 34) rfl)) (hw _ (List.mem_of_getElem? (i := 9) rfl)) (by decide) (by decide)) q49a q49c (g := (mkF m 151 #[.val (.long xb), .second, .val (.long xt), .second, .val (.long xg), .second, .val (.long xm), .second, .val (.int xo), .val (.long by1), .second, .val (.long t1), .second, .val (.long g1), .second, .val (.long ex1), .second, .val (.long mo), .second, .val (.int xe), .val (.ref b1), .val (.int (1 : Int32)), .val (.int (own_hold ex1 mo by1)), .val (.int (own_hold ex1 mo by1)), .unset] [(.ref b1)])) rfl (by rw [hml]; rfl) (Steps.refl _) (argsL := []) (rest := []) (lenOf own_pd2 rfl) rfl (by show 2 * 0 + _ ≤ _; exact Nat.le_of_eq rfl) (hb hby at_151) (fun _ _ => ⟨rfl, eq46, (by decide : 1 + 0 ≤ _), (by decide : 2 + 0 ≤ _)⟩)
  dsimp only [Pt.U, Pt.locs, Pt.cells, Pt.slots] at X49 l49 y49 z49 ls49 hQ49
  subst l49 y49 z49
  obtain ⟨rfl, Nq49, eq49⟩ := hQ49
  have N49 := Fr.app N46 Nq49
  have st50 : own_Go p e below (T49.setTop (mkF m 154 #[.val (.long xb), .second, .val (.long xt), .second, .val (.long xg), .second, .val (.long xm), .second, .val (.int xo), .val (.long by1), .second, .val (.long t1), .second, .val (.long g1), .second, .val (.long ex1), .second, .val (.long mo), .second, .val (.int xe), .val (.ref b1), .val (.int (1 : Int32)), .val (.int (own_hold ex1 mo by1)), .val (.int (own_hold ex1 mo by1)), .unset] [(.long ex1)])) (s₁.setTop (entryFrame m #[(.long xb), (.long xt), (.long xg), (.long xm), (.int xo)] maxLocals)) := fun t kt => st48 t (ls49.trans kt)
  have hc51 : ex1 = ex1 := rfl
  have hc52 : ¬ ((1 : Int32) = (0 : Int32)) := by decide
  have hc53 : ¬ ((1 : Int32) = (0 : Int32)) := by decide
  have hc54 : (own_hold ex1 mo by1) = xe := hj9.symm
  have hc55 : (own_hold ex1 mo by1) = (own_hold ex1 mo by1) := rfl
  have st56 : own_Go p e below (T49.setTop (mkF m 196 #[.val (.long xb), .second, .val (.long xt), .second, .val (.long xg), .second, .val (.long xm), .second, .val (.int xo), .val (.long by1), .second, .val (.long t1), .second, .val (.long g1), .second, .val (.long ex1), .second, .val (.long mo), .second, .val (.int xe), .val (.ref b1), .val (.int (1 : Int32)), .val (.int (own_hold ex1 mo by1)), .val (.int (own_hold ex1 mo by1)), .val (.int (1 : Int32))] [(.int (1 : Int32))])) (s₁.setTop (entryFrame m #[(.long xb), (.long xt), (.long xg), (.long xm), (.int xo)] maxLocals)) := fun t kt => st50 t (by
    show Steps p.tables e below (T49.setTop (mkF m 154 #[.val (.long xb), .second, .val (.long xt), .second, .val (.long xg), .second, .val (.long xm), .second, .val (.int xo), .val (.long by1), .second, .val (.long t1), .second, .val (.long g1), .second, .val (.long ex1), .second, .val (.long mo), .second, .val (.int xe), .val (.ref b1), .val (.int (1 : Int32)), .val (.int (own_hold ex1 mo by1)), .val (.int (own_hold ex1 mo by1)), .unset] [(.long ex1)])) _
    refine XS.lload X49.here hx rfl (hb hby at_154) rfl ?_
    show Steps p.tables e below (T49.setTop (mkF m 156 #[.val (.long xb), .second, .val (.long xt), .second, .val (.long xg), .second, .val (.long xm), .second, .val (.int xo), .val (.long by1), .second, .val (.long t1), .second, .val (.long g1), .second, .val (.long ex1), .second, .val (.long mo), .second, .val (.int xe), .val (.ref b1), .val (.int (1 : Int32)), .val (.int (own_hold ex1 mo by1)), .val (.int (own_hold ex1 mo by1)), .unset] [(.long ex1), (.long ex1)])) _
    refine XS.lcmp X49.here hx rfl (hb hby at_156) rfl ?_
    show Steps p.tables e below (T49.setTop (mkF m 157 #[.val (.long xb), .second, .val (.long xt), .second, .val (.long xg), .second, .val (.long xm), .second, .val (.int xo), .val (.long by1), .second, .val (.long t1), .second, .val (.long g1), .second, .val (.long ex1), .second, .val (.long mo), .second, .val (.int xe), .val (.ref b1), .val (.int (1 : Int32)), .val (.int (own_hold ex1 mo by1)), .val (.int (own_hold ex1 mo by1)), .unset] [(.int (lcmpW ex1 ex1))])) _
    refine XS.ifNo X49.here hx rfl (hb hby at_157) rfl ((if0 _ _).trans (teq ((lw_eq _ _).mpr hc51)).2) ?_
    show Steps p.tables e below (T49.setTop (mkF m 160 #[.val (.long xb), .second, .val (.long xt), .second, .val (.long xg), .second, .val (.long xm), .second, .val (.int xo), .val (.long by1), .second, .val (.long t1), .second, .val (.long g1), .second, .val (.long ex1), .second, .val (.long mo), .second, .val (.int xe), .val (.ref b1), .val (.int (1 : Int32)), .val (.int (own_hold ex1 mo by1)), .val (.int (own_hold ex1 mo by1)), .unset] [])) _
    refine XS.iconst X49.here hx rfl (hb hby at_160) ?_
    show Steps p.tables e below (T49.setTop (mkF m 161 #[.val (.long xb), .second, .val (.long xt), .second, .val (.long xg), .second, .val (.long xm), .second, .val (.int xo), .val (.long by1), .second, .val (.long t1), .second, .val (.long g1), .second, .val (.long ex1), .second, .val (.long mo), .second, .val (.int xe), .val (.ref b1), .val (.int (1 : Int32)), .val (.int (own_hold ex1 mo by1)), .val (.int (own_hold ex1 mo by1)), .unset] [(.int (1 : Int32))])) _
    refine XS.goto X49.here hx rfl (pc0 := 161) (pc' := 165) rfl (hb hby at_161) (by decide) (by decide) ?_
    show Steps p.tables e below (T49.setTop (mkF m 165 #[.val (.long xb), .second, .val (.long xt), .second, .val (.long xg), .second, .val (.long xm), .second, .val (.int xo), .val (.long by1), .second, .val (.long t1), .second, .val (.long g1), .second, .val (.long ex1), .second, .val (.long mo), .second, .val (.int xe), .val (.ref b1), .val (.int (1 : Int32)), .val (.int (own_hold ex1 mo by1)), .val (.int (own_hold ex1 mo by1)), .unset] [(.int (1 : Int32))])) _
    refine XS.istore X49.here hx rfl (hb hby at_165) rfl (l' := #[.val (.long xb), .second, .val (.long xt), .second, .val (.long xg), .second, .val (.long xm), .second, .val (.int xo), .val (.long by1), .second, .val (.long t1), .second, .val (.long g1), .second, .val (.long ex1), .second, .val (.long mo), .second, .val (.int xe), .val (.ref b1), .val (.int (1 : Int32)), .val (.int (own_hold ex1 mo by1)), .val (.int (own_hold ex1 mo by1)), .val (.int (1 : Int32))]) rfl ?_
    show Steps p.tables e below (T49.setTop (mkF m 167 #[.val (.long xb), .second, .val (.long xt), .second, .val (.long xg), .second, .val (.long xm), .second, .val (.int xo), .val (.long by1), .second, .val (.long t1), .second, .val (.long g1), .second, .val (.long ex1), .second, .val (.long mo), .second, .val (.int xe), .val (.ref b1), .val (.int (1 : Int32)), .val (.int (own_hold ex1 mo by1)), .val (.int (own_hold ex1 mo by1)), .val (.int (1 : Int32))] [])) _
    refine XS.iload X49.here hx rfl (hb hby at_167) rfl ?_
    show Steps p.tables e below (T49.setTop (mkF m 169 #[.val (.long xb), .second, .val (.long xt), .second, .val (.long xg), .second, .val (.long xm), .second, .val (.int xo), .val (.long by1), .second, .val (.long t1), .second, .val (.long g1), .second, .val (.long ex1), .second, .val (.long mo), .second, .val (.int xe), .val (.ref b1), .val (.int (1 : Int32)), .val (.int (own_hold ex1 mo by1)), .val (.int (own_hold ex1 mo by1)), .val (.int (1 : Int32))] [(.int (1 : Int32))])) _
    refine XS.ifNo X49.here hx rfl (hb hby at_169) rfl ((if0 _ _).trans (feq hc52).1) ?_
    show Steps p.tables e below (T49.setTop (mkF m 172 #[.val (.long xb), .second, .val (.long xt), .second, .val (.long xg), .second, .val (.long xm), .second, .val (.int xo), .val (.long by1), .second, .val (.long t1), .second, .val (.long g1), .second, .val (.long ex1), .second, .val (.long mo), .second, .val (.int xe), .val (.ref b1), .val (.int (1 : Int32)), .val (.int (own_hold ex1 mo by1)), .val (.int (own_hold ex1 mo by1)), .val (.int (1 : Int32))] [])) _
    refine XS.iload X49.here hx rfl (hb hby at_172) rfl ?_
    show Steps p.tables e below (T49.setTop (mkF m 174 #[.val (.long xb), .second, .val (.long xt), .second, .val (.long xg), .second, .val (.long xm), .second, .val (.int xo), .val (.long by1), .second, .val (.long t1), .second, .val (.long g1), .second, .val (.long ex1), .second, .val (.long mo), .second, .val (.int xe), .val (.ref b1), .val (.int (1 : Int32)), .val (.int (own_hold ex1 mo by1)), .val (.int (own_hold ex1 mo by1)), .val (.int (1 : Int32))] [(.int (1 : Int32))])) _
    refine XS.ifNo X49.here hx rfl (hb hby at_174) rfl ((if0 _ _).trans (feq hc53).1) ?_
    show Steps p.tables e below (T49.setTop (mkF m 177 #[.val (.long xb), .second, .val (.long xt), .second, .val (.long xg), .second, .val (.long xm), .second, .val (.int xo), .val (.long by1), .second, .val (.long t1), .second, .val (.long g1), .second, .val (.long ex1), .second, .val (.long mo), .second, .val (.int xe), .val (.ref b1), .val (.int (1 : Int32)), .val (.int (own_hold ex1 mo by1)), .val (.int (own_hold ex1 mo by1)), .val (.int (1 : Int32))] [])) _
    refine XS.iload X49.here hx rfl (hb hby at_177) rfl ?_
    show Steps p.tables e below (T49.setTop (mkF m 179 #[.val (.long xb), .second, .val (.long xt), .second, .val (.long xg), .second, .val (.long xm), .second, .val (.int xo), .val (.long by1), .second, .val (.long t1), .second, .val (.long g1), .second, .val (.long ex1), .second, .val (.long mo), .second, .val (.int xe), .val (.ref b1), .val (.int (1 : Int32)), .val (.int (own_hold ex1 mo by1)), .val (.int (own_hold ex1 mo by1)), .val (.int (1 : Int32))] [(.int (own_hold ex1 mo by1))])) _
    refine XS.iload X49.here hx rfl (hb hby at_179) rfl ?_
    show Steps p.tables e below (T49.setTop (mkF m 181 #[.val (.long xb), .second, .val (.long xt), .second, .val (.long xg), .second, .val (.long xm), .second, .val (.int xo), .val (.long by1), .second, .val (.long t1), .second, .val (.long g1), .second, .val (.long ex1), .second, .val (.long mo), .second, .val (.int xe), .val (.ref b1), .val (.int (1 : Int32)), .val (.int (own_hold ex1 mo by1)), .val (.int (own_hold ex1 mo by1)), .val (.int (1 : Int32))] [(.int xe), (.int (own_hold ex1 mo by1))])) _
    refine XS.icmpNo X49.here hx rfl (hb hby at_181) rfl (teq hc54).2 ?_
    show Steps p.tables e below (T49.setTop (mkF m 184 #[.val (.long xb), .second, .val (.long xt), .second, .val (.long xg), .second, .val (.long xm), .second, .val (.int xo), .val (.long by1), .second, .val (.long t1), .second, .val (.long g1), .second, .val (.long ex1), .second, .val (.long mo), .second, .val (.int xe), .val (.ref b1), .val (.int (1 : Int32)), .val (.int (own_hold ex1 mo by1)), .val (.int (own_hold ex1 mo by1)), .val (.int (1 : Int32))] [])) _
    refine XS.iload X49.here hx rfl (hb hby at_184) rfl ?_
    show Steps p.tables e below (T49.setTop (mkF m 186 #[.val (.long xb), .second, .val (.long xt), .second, .val (.long xg), .second, .val (.long xm), .second, .val (.int xo), .val (.long by1), .second, .val (.long t1), .second, .val (.long g1), .second, .val (.long ex1), .second, .val (.long mo), .second, .val (.int xe), .val (.ref b1), .val (.int (1 : Int32)), .val (.int (own_hold ex1 mo by1)), .val (.int (own_hold ex1 mo by1)), .val (.int (1 : Int32))] [(.int (own_hold ex1 mo by1))])) _
    refine XS.iload X49.here hx rfl (hb hby at_186) rfl ?_
    show Steps p.tables e below (T49.setTop (mkF m 188 #[.val (.long xb), .second, .val (.long xt), .second, .val (.long xg), .second, .val (.long xm), .second, .val (.int xo), .val (.long by1), .second, .val (.long t1), .second, .val (.long g1), .second, .val (.long ex1), .second, .val (.long mo), .second, .val (.int xe), .val (.ref b1), .val (.int (1 : Int32)), .val (.int (own_hold ex1 mo by1)), .val (.int (own_hold ex1 mo by1)), .val (.int (1 : Int32))] [(.int (own_hold ex1 mo by1)), (.int (own_hold ex1 mo by1))])) _
    refine XS.icmpNo X49.here hx rfl (hb hby at_188) rfl (teq hc55).2 ?_
    show Steps p.tables e below (T49.setTop (mkF m 191 #[.val (.long xb), .second, .val (.long xt), .second, .val (.long xg), .second, .val (.long xm), .second, .val (.int xo), .val (.long by1), .second, .val (.long t1), .second, .val (.long g1), .second, .val (.long ex1), .second, .val (.long mo), .second, .val (.int xe), .val (.ref b1), .val (.int (1 : Int32)), .val (.int (own_hold ex1 mo by1)), .val (.int (own_hold ex1 mo by1)), .val (.int (1 : Int32))] [])) _
    refine XS.iconst X49.here hx rfl (hb hby at_191) ?_
    show Steps p.tables e below (T49.setTop (mkF m 192 #[.val (.long xb), .second, .val (.long xt), .second, .val (.long xg), .second, .val (.long xm), .second, .val (.int xo), .val (.long by1), .second, .val (.long t1), .second, .val (.long g1), .second, .val (.long ex1), .second, .val (.long mo), .second, .val (.int xe), .val (.ref b1), .val (.int (1 : Int32)), .val (.int (own_hold ex1 mo by1)), .val (.int (own_hold ex1 mo by1)), .val (.int (1 : Int32))] [(.int (1 : Int32))])) _
    refine XS.goto X49.here hx rfl (pc0 := 192) (pc' := 196) rfl (hb hby at_192) (by decide) (by decide) ?_
    show Steps p.tables e below (T49.setTop (mkF m 196 #[.val (.long xb), .second, .val (.long xt), .second, .val (.long xg), .second, .val (.long xm), .second, .val (.int xo), .val (.long by1), .second, .val (.long t1), .second, .val (.long g1), .second, .val (.long ex1), .second, .val (.long mo), .second, .val (.int xe), .val (.ref b1), .val (.int (1 : Int32)), .val (.int (own_hold ex1 mo by1)), .val (.int (own_hold ex1 mo by1)), .val (.int (1 : Int32))] [(.int (1 : Int32))])) _
    exact kt)
  obtain ⟨fs, hr, hrun, hended, hW, hsame⟩ := X49.leave (v := (some (.int (1 : Int32)))) (fun h => by rw [Bd.returns] at h; cases h)
  refine ⟨_, _, st56 _ ?_, hrun, hended, _, _, rfl, ?_, ⟨_, rfl⟩, hW, hsame.mono (by decide) (by decide)⟩
  · exact retN X49 hx (t := .boolean) Bd.returns (by simp) (hb hby at_196) hr
  · show Q_rm_law Z xb xt xg xm xo h0 n0 _ T49.heap _
    rw [eq49]
    exact ⟨rfl, N49⟩
set_option maxRecDepth 65536 in
set_option maxHeartbeats 40000000 in
theorem comes_1 {Post : Tables → Env → Array Value → State → Outcome → State → Prop} (hpost : ∀ tb e args s v u, (limb_1_1.after args s (.returned v) u = true ∧ limb_1_2.after args s (.returned v) u = true ∧ True) → FrameEnd s (.returned v) u (Jvm.fieldLocs frame_1_writes args s ++ Jvm.arrayLocs frame_1_arrays args s ++ Jvm.staticLocs frame_1_statics s) 16 128 → Post tb e args s (.returned v) u) :
    ArmFor flags0 classFile x code maxLocals ret World_1 tables_1 room_1 Calls_1 rest_1 Pre_1 Post := by
  intro l hfl _ _ p e ha hc hk s m args below hf hA hF happ hP
  obtain ⟨hcalls, hrest, hpre⟩ := hP
  obtain ⟨-, -, -, hnamed, -, -, -, hat⟩ := (Spec.applies_iff hf).mp happ
  obtain ⟨hg, hn⟩ := and_e (Cond.before_iff.mp (show (Jvm.Cond.and given_1 narrow_1).before args s = true from hpre))
  obtain ⟨gg1, gg2⟩ := and_e hg
  obtain ⟨gg3, gg4⟩ := and_e gg2
  obtain ⟨gg5, gg6⟩ := and_e gg4
  obtain ⟨gg7, gg8⟩ := and_e gg6
  obtain ⟨gg9, gg10⟩ := and_e gg8
  obtain ⟨w0, w1, w2, w3, w4, rfl⟩ : ∃ w0 w1 w2 w3 w4 : Value, args = #[w0, w1, w2, w3, w4] := by
    have hs : args.size = 5 := by simpa [Cond.value, given_1] using gg1
    obtain ⟨L⟩ := args
    match L, hs with
    | [w0, w1, w2, w3, w4], _ => exact ⟨w0, w1, w2, w3, w4, rfl⟩
  have hw := fun d (hd : d ∈ tables_1) => atoms_spec (ws := Jvm.Cond.code x code maxLocals ret :: tables_1) hat d (List.mem_cons_of_mem _ hd)
  have hfit : Fit s := fun {y c} hc i hi => by
    obtain ⟨ha, rfl⟩ := Array.getElem?_eq_some_iff.mp hc
    have q := List.all_eq_true.mp ((Array.all_eq_true_iff_forall_mem.mp hF) _ (Array.getElem_mem ha)) i (List.mem_range.mpr hi)
    simpa [Array.getElem?_eq_getElem hi] using q
  obtain ⟨i0, ei0⟩ := isL_v gg3
  obtain rfl : w0 = (.long i0) := Option.some.inj ei0
  obtain ⟨i1, ei1⟩ := isL_v gg5
  obtain rfl : w1 = (.long i1) := Option.some.inj ei1
  obtain ⟨i2, ei2⟩ := isL_v gg7
  obtain rfl : w2 = (.long i2) := Option.some.inj ei2
  obtain ⟨i3, ei3⟩ := isL_v gg9
  obtain rfl : w3 = (.long i3) := Option.some.inj ei3
  obtain ⟨i4, ei4⟩ := is_v gg10
  obtain rfl : w4 = (.int i4) := Option.some.inj ei4
  obtain ⟨n, o, h1, h2, h3, _, L, rfl, ⟨rfl, N⟩, hq⟩ := rm_law l s _ hw tables_1 i0 i1 i2 i3 i4  s.heap s.heap.size (Nat.le_refl _)  p e ha hc hk s m _ below hf ((Spec.applies_iff_loose hf).mp happ).1 ⟨rfl, State.Warmed39.refl s, rfl⟩ trivial
  refine ⟨n, _, h1, h2, h3, hpost _ _ _ _ _ _ ⟨Cond.after_iff.mpr rfl, Cond.after_iff.mpr (eq_i res_at (Term.int_eval (1)) rfl), trivial⟩ ⟨hq.1, hq.2.1, (hq.2.2.sift fun y hy => Or.inr (N y hy)).mono (by decide) (by decide)⟩⟩
theorem main_1_1 : Claimed_1_1 := comes_1 fun _ _ _ _ _ _ h hF => ⟨h.1, hF⟩
theorem main_1_2 : Claimed_1_2 := comes_1 fun _ _ _ _ _ _ h hF => ⟨h.2.1, hF⟩
end Jvm.Pilot.@@N@@
namespace Jvm.Pilot.@@N@@
open Jvm Jvm.ClassFile Sem Op Lib Jvm.Free Jvm.Stand Jvm.Pilot.@@N@@.Jvm.D
/-! MADE BY PROGRAM (witnessworld.py) out of the Statement's table words and the real class files: 10 classes; the members and pool entries that the words name. The judged class is class 1, her method 1. -/
namespace start1
open Jvm.ClassFile
def u (s : String) : CpInfo := .utf8 (stringToUtf16 s)
/-- a pool by its gaps: so many unusable entries, then the entry; so many at the end -/
def gap : Nat → List CpInfo → List CpInfo
  | 0, r => r
  | n + 1, r => .unusable :: gap n r
def poolList (es : List (Nat × CpInfo)) (last : Nat) : List CpInfo := es.foldr (fun e r => gap e.1 (e.2 :: r)) (gap last [])
def pool (es : List (Nat × CpInfo)) (last : Nat) : Array CpInfo := ⟨poolList es last⟩
def fileOf (pool : Array CpInfo) (this : Nat) (attrs : Array Attribute := #[]) (ms : Array MethodInfo := #[]) (fl : Nat := 33) (sup : Nat := 0) (ifs : Array Nat := #[]) (fds : Array FieldInfo := #[]) : ClassFile where
  minorVersion := 0
  majorVersion := 65
  constantPool := pool
  accessFlags := fl
  thisClass := this
  superClass := sup
  interfaces := ifs
  fields := fds
  methods := ms
  attributes := attrs
def plain (name : String) (sup : Option ClassId) : Class where
  name := name
  kind := .ordinary
  loader := none
  accessFlags := 33
  super := sup
  interfaces := #[]
  cf := none
  fields := #[]
  methods := #[]
  instanceTypes := #[]
  staticTypes := #[]
  resolved := #[]
  callSites := []
  init := .initialized
  statics := none
  mirror := none

def pool0 : Array CpInfo := pool [(5, u "<init>"), (0, u "()V"), (1, .class_ 10), (1, u "java/lang/Object")] 113

def k0c0 : Code := { maxStack := 0, maxLocals := 1, code := object_method_1_code, exceptionTable := #[], attributes := #[] }
def k0m0 : Method := { name := "<init>", desc := "()V", sig := { parameters := [], returnType := none }, accessFlags := 1, code := some k0c0 }
/-- java/lang/Object -/
def k0 : Class := { plain "java/lang/Object" none with
  accessFlags := 33
  interfaces := #[]
  cf := some (fileOf pool0 8 #[] #[{ accessFlags := 1, nameIndex := 5, descriptorIndex := 6, attributes := #[] }] 33 0 #[] #[])
  fields := #[]
  methods := #[k0m0]
  instanceTypes := #[]
  staticTypes := #[]
  resolved := Array.replicate 124 none
  statics := none }

def pool1 : Array CpInfo := pool [(2, .class_ 4), (1, u "java/lang/Object"), (0, u "<init>"), (0, u "()V"), (0, .class_ 8), (0, u "com/example/pactum/pactum/service/RoomHoldsPinLaw"), (0, .long 4611686018427387903), (1, .methodref 12 13), (0, .class_ 14), (0, .nameAndType 15 16), (0, u "java/lang/Math"), (0, u "min"), (0, u "(JJ)J"), (0, .long 7), (1, .long 4), (1, .class_ 22), (0, u "com/example/pactum/pactum/service/Room"), (0, .methodref 21 24), (0, .nameAndType 5 25), (0, u "(J)V"), (0, .methodref 21 27), (0, .nameAndType 28 25), (0, u "take"), (0, .methodref 21 30), (0, .nameAndType 31 25), (0, u "give"), (0, .methodref 21 33), (0, .nameAndType 34 35), (0, u "taken"), (0, u "()J"), (0, .methodref 21 37), (0, .nameAndType 38 39), (0, u "holds"), (0, u "(J)Z"), (0, u "MASK"), (0, u "J"), (3, u "law"), (0, u "(JJJJI)Z")] 3

def k1m0 : Method := { name := "<init>", desc := "()V", sig := { parameters := [], returnType := none }, accessFlags := 1, code := none }
def k1c1 : Code := { maxStack := 6, maxLocals := 25, code := code, exceptionTable := #[], attributes := #[] }
def k1m1 : Method := { name := "law", desc := "(JJJJI)Z", sig := { parameters := [.long, .long, .long, .long, .int], returnType := some .boolean }, accessFlags := 9, code := some k1c1 }
/-- com/example/pactum/pactum/service/RoomHoldsPinLaw -/
def k1 : Class := { plain "com/example/pactum/pactum/service/RoomHoldsPinLaw" (some 0) with
  accessFlags := 49
  interfaces := #[]
  cf := some (fileOf pool1 7 #[] #[{ accessFlags := 1, nameIndex := 5, descriptorIndex := 6, attributes := #[] }, { accessFlags := 9, nameIndex := 45, descriptorIndex := 46, attributes := #[] }] 49 2 #[] #[{ accessFlags := 26, nameIndex := 40, descriptorIndex := 41, attributes := #[] }])
  fields := #[{ name := "MASK", type := .long, accessFlags := 26, slot := 0, constantValue := 0 }]
  methods := #[k1m0, k1m1]
  instanceTypes := #[]
  staticTypes := #[.long]
  resolved := Array.replicate 50 none
  statics := none }

def pool2 : Array CpInfo := pool [(1, .class_ 2), (0, u "java/lang/Math"), (1, .class_ 6), (1, u "java/lang/Object"), (0, u "<init>"), (0, u "()V"), (89, .class_ 100), (1, u "java/lang/Math$RandomNumberGeneratorHolder"), (20, u "(JJ)J"), (50, u "negativeZeroFloatBits"), (0, u "J"), (2, u "negativeZeroDoubleBits"), (24, u "min"), (43, u "$assertionsDisabled"), (0, u "Z"), (91, u "twoToTheDoubleScaleDown"), (0, u "D"), (4, u "twoToTheDoubleScaleUp"), (9, u "E"), (3, u "PI"), (2, u "TAU"), (2, u "DEGREES_TO_RADIANS"), (0, u "RADIANS_TO_DEGREES")] 94

def k2m0 : Method := { name := "<init>", desc := "()V", sig := { parameters := [], returnType := none }, accessFlags := 2, code := none }
def k2c1 : Code := { maxStack := 4, maxLocals := 4, code := jdk_29_method_70_code, exceptionTable := #[], attributes := #[] }
def k2m1 : Method := { name := "min", desc := "(JJ)J", sig := { parameters := [.long, .long], returnType := some .long }, accessFlags := 9, code := some k2c1 }
/-- java/lang/Math -/
def k2 : Class := { plain "java/lang/Math" (some 0) with
  accessFlags := 49
  interfaces := #[]
  cf := some (fileOf pool2 1 #[.nestMembers #[98]] #[{ accessFlags := 2, nameIndex := 7, descriptorIndex := 8, attributes := #[] }, { accessFlags := 9, nameIndex := 201, descriptorIndex := 121, attributes := #[] }] 49 4 #[] #[{ accessFlags := 25, nameIndex := 354, descriptorIndex := 339, attributes := #[] }, { accessFlags := 25, nameIndex := 358, descriptorIndex := 339, attributes := #[] }, { accessFlags := 25, nameIndex := 361, descriptorIndex := 339, attributes := #[] }, { accessFlags := 26, nameIndex := 364, descriptorIndex := 339, attributes := #[] }, { accessFlags := 26, nameIndex := 365, descriptorIndex := 339, attributes := #[] }, { accessFlags := 26, nameIndex := 172, descriptorIndex := 173, attributes := #[] }, { accessFlags := 26, nameIndex := 176, descriptorIndex := 173, attributes := #[] }, { accessFlags := 8, nameIndex := 344, descriptorIndex := 339, attributes := #[] }, { accessFlags := 8, nameIndex := 338, descriptorIndex := 339, attributes := #[] }, { accessFlags := 4120, nameIndex := 245, descriptorIndex := 246, attributes := #[] }])
  fields := #[{ name := "E", type := .double, accessFlags := 25, slot := 0, constantValue := 0 }, { name := "PI", type := .double, accessFlags := 25, slot := 1, constantValue := 0 }, { name := "TAU", type := .double, accessFlags := 25, slot := 2, constantValue := 0 }, { name := "DEGREES_TO_RADIANS", type := .double, accessFlags := 26, slot := 3, constantValue := 0 }, { name := "RADIANS_TO_DEGREES", type := .double, accessFlags := 26, slot := 4, constantValue := 0 }, { name := "negativeZeroFloatBits", type := .long, accessFlags := 26, slot := 5, constantValue := 0 }, { name := "negativeZeroDoubleBits", type := .long, accessFlags := 26, slot := 6, constantValue := 0 }, { name := "twoToTheDoubleScaleUp", type := .double, accessFlags := 8, slot := 7, constantValue := 0 }, { name := "twoToTheDoubleScaleDown", type := .double, accessFlags := 8, slot := 8, constantValue := 0 }, { name := "$assertionsDisabled", type := .boolean, accessFlags := 4120, slot := 9, constantValue := 0 }]
  methods := #[k2m0, k2m1]
  instanceTypes := #[]
  staticTypes := #[.double, .double, .double, .double, .double, .long, .long, .double, .double, .boolean]
  resolved := Array.replicate 460 none
  statics := none }

def pool3 : Array CpInfo := pool [(1, .class_ 2), (0, u "com/example/pactum/pactum/service/Room"), (2, .methodref 6 7), (0, .class_ 8), (0, .nameAndType 9 10), (0, u "java/lang/Object"), (0, u "<init>"), (0, u "()V"), (0, .fieldref 1 12), (0, .nameAndType 13 14), (0, u "bytes"), (0, u "J"), (10, .fieldref 1 26), (0, .nameAndType 27 14), (0, u "taken"), (24, u "()J"), (4, u "EIGHTH"), (0, u "STRING"), (1, u "LONGEST_NAME"), (2, u "(J)V"), (4, u "holds"), (0, u "(J)Z"), (1, u "take"), (0, u "give")] 19

def k3c0 : Code := { maxStack := 3, maxLocals := 3, code := prog_199_method_1_code, exceptionTable := #[], attributes := #[] }
def k3m0 : Method := { name := "<init>", desc := "(J)V", sig := { parameters := [.long], returnType := none }, accessFlags := 0, code := some k3c0 }
def k3c1 : Code := { maxStack := 2, maxLocals := 1, code := prog_199_method_3_code, exceptionTable := #[], attributes := #[] }
def k3m1 : Method := { name := "taken", desc := "()J", sig := { parameters := [], returnType := some .long }, accessFlags := 0, code := some k3c1 }
def k3c2 : Code := { maxStack := 4, maxLocals := 3, code := prog_199_method_4_code, exceptionTable := #[], attributes := #[] }
def k3m2 : Method := { name := "holds", desc := "(J)Z", sig := { parameters := [.long], returnType := some .boolean }, accessFlags := 0, code := some k3c2 }
def k3c3 : Code := { maxStack := 5, maxLocals := 3, code := prog_199_method_5_code, exceptionTable := #[], attributes := #[] }
def k3m3 : Method := { name := "take", desc := "(J)V", sig := { parameters := [.long], returnType := none }, accessFlags := 0, code := some k3c3 }
def k3c4 : Code := { maxStack := 5, maxLocals := 3, code := prog_199_method_6_code, exceptionTable := #[], attributes := #[] }
def k3m4 : Method := { name := "give", desc := "(J)V", sig := { parameters := [.long], returnType := none }, accessFlags := 0, code := some k3c4 }
/-- com/example/pactum/pactum/service/Room -/
def k3 : Class := { plain "com/example/pactum/pactum/service/Room" (some 0) with
  accessFlags := 48
  interfaces := #[]
  cf := some (fileOf pool3 1 #[] #[{ accessFlags := 0, nameIndex := 9, descriptorIndex := 63, attributes := #[] }, { accessFlags := 0, nameIndex := 27, descriptorIndex := 52, attributes := #[] }, { accessFlags := 0, nameIndex := 68, descriptorIndex := 69, attributes := #[] }, { accessFlags := 0, nameIndex := 71, descriptorIndex := 63, attributes := #[] }, { accessFlags := 0, nameIndex := 72, descriptorIndex := 63, attributes := #[] }] 48 6 #[] #[{ accessFlags := 24, nameIndex := 57, descriptorIndex := 14, attributes := #[] }, { accessFlags := 26, nameIndex := 58, descriptorIndex := 14, attributes := #[] }, { accessFlags := 24, nameIndex := 60, descriptorIndex := 14, attributes := #[] }, { accessFlags := 18, nameIndex := 13, descriptorIndex := 14, attributes := #[] }, { accessFlags := 2, nameIndex := 27, descriptorIndex := 14, attributes := #[] }])
  fields := #[{ name := "EIGHTH", type := .long, accessFlags := 24, slot := 0, constantValue := 0 }, { name := "STRING", type := .long, accessFlags := 26, slot := 1, constantValue := 0 }, { name := "LONGEST_NAME", type := .long, accessFlags := 24, slot := 2, constantValue := 0 }, { name := "bytes", type := .long, accessFlags := 18, slot := 0, constantValue := 0 }, { name := "taken", type := .long, accessFlags := 2, slot := 1, constantValue := 0 }]
  methods := #[k3m0, k3m1, k3m2, k3m3, k3m4]
  instanceTypes := #[.long, .long]
  staticTypes := #[.long, .long, .long]
  resolved := Array.replicate 92 none
  statics := none }

def pool4 : Array CpInfo := pool [(1, u "java/lang/Cloneable"), (0, .class_ 1), (0, u "java/lang/Object"), (0, .class_ 3)] 3

/-- java/lang/Cloneable -/
def k4 : Class := { plain "java/lang/Cloneable" (some 0) with
  accessFlags := 1537
  interfaces := #[]
  cf := some (fileOf pool4 2 #[] #[] 1537 4 #[] #[])
  fields := #[]
  methods := #[]
  instanceTypes := #[]
  staticTypes := #[]
  resolved := Array.replicate 8 none
  statics := none }

def pool5 : Array CpInfo := pool [(1, u "java/io/Serializable"), (0, .class_ 1), (0, u "java/lang/Object"), (0, .class_ 3)] 3

/-- java/io/Serializable -/
def k5 : Class := { plain "java/io/Serializable" (some 0) with
  accessFlags := 1537
  interfaces := #[]
  cf := some (fileOf pool5 2 #[] #[] 1537 4 #[] #[])
  fields := #[]
  methods := #[]
  instanceTypes := #[]
  staticTypes := #[]
  resolved := Array.replicate 8 none
  statics := none }

/-- the primitive byte -/
def k6 : Class := { plain "byte" none with kind := .primitive 'B', accessFlags := 0x411 }
/-- [B -/
def k7 : Class := { plain "[B" (some 0) with kind := .array 6 .byte, interfaces := #[4, 5], accessFlags := 1041 }

/-- the primitive int -/
def k8 : Class := { plain "int" none with kind := .primitive 'I', accessFlags := 0x411 }
/-- [I -/
def k9 : Class := { plain "[I" (some 0) with kind := .array 8 .int, interfaces := #[4, 5], accessFlags := 1041 }

def heap : Heap := #[]
def classes : Array Class := #[k0, k1, k2, k3, k4, k5, k6, k7, k8, k9]
def interned : List (Array UInt16 × Addr) := []
def slotsUsed : Nat := 0
def theMethod : MethodId := ⟨1, 1⟩
def args0 : Array Value := #[.long 5, .long 5, .long 5, .long 5, .int 3]
def aboutOver (below : List Frame) : State where
  vm := { classes := classes, interned := interned.toArray }
  heap := heap
  slotsUsed := slotsUsed
  threads := #[{ frames := .invoking theMethod args0 :: below }]
def below0 : List Frame := [.native { method := ⟨0, 0⟩, args := #[] }]
def about1 : State := aboutOver below0
def p0 : Program := .bare "" "" ""
def e0 : Env := launch0.env 0 0 0
theorem w_frames : about1.frames = Frame.invoking theMethod args0 :: below0 := rfl
set_option maxRecDepth 65536 in
theorem w_args : argsFit about1.vm theMethod args0 = true := by decide +kernel
set_option maxRecDepth 65536 in
theorem w_heap : heapFits about1 = true := by decide +kernel
set_option maxRecDepth 65536 in
theorem w_runnable : about1.curStatus? = some .runnable := by decide +kernel
set_option maxRecDepth 65536 in
theorem w_alone : about1.alone = true := by decide +kernel
set_option maxRecDepth 65536 in
theorem w_named : about1.methodNamed? x = some theMethod := by decide +kernel
set_option maxRecDepth 65536 in
theorem w_hears : about1.hears theMethod below0 = true := by decide +kernel
set_option maxRecDepth 65536 in
theorem w_ripe : about1.ripe theMethod args0 below0 = true := by decide +kernel
theorem w_running : about1.status = .running := rfl
set_option maxRecDepth 65536 in
theorem w_room : about1.hasRoom e0.platform room_1 = true :=
  launch0.hasRoom_least _ room_1 (by decide +kernel) (by decide +kernel) (by decide +kernel) (by decide +kernel) (by decide +kernel) (by decide +kernel)
theorem allAtoms_all (ts : List Jvm.Cond) (a : Array Jvm.Value) (st : Jvm.State) : (allAtoms ts).before a st = ts.all (fun c => c.before a st) := by
  induction ts with
  | nil => rfl
  | cons c t ih =>
    show (Jvm.Cond.and c (allAtoms t)).before a st = _
    rw [Jvm.Cond.before_and, ih, List.all_cons]
def words1 : List Jvm.Cond := Jvm.Cond.code x code maxLocals ret :: tables_1
/-- a 'code' word, met by the world's own term for the bytes: nothing is compared byte by byte -/
theorem code_word {y : MethodName} {bytes : ByteArray} {mx : Nat} {rt : Option FieldType} {a : Array Value} {s : State} {m : MethodId} {meth : Method} {c : Code} (h1 : s.methodNamed? y = some m) (h2 : s.vm.method? m = some meth) (h3 : meth.code = some c) (h4 : c.code = bytes)
    (h5 : (c.maxLocals == mx && c.exceptionTable.isEmpty && decide (c.maxStack ≤ mostOperands) && decide (meth.sig.returnType = rt) && !meth.locks && decide (parseMethodDescriptor y.desc = some meth.sig)) = true) : (Jvm.Cond.code y bytes mx rt).before a s = true := by
  simp only [Bool.and_eq_true, beq_iff_eq, Bool.not_eq_true', decide_eq_true_eq] at h5
  obtain ⟨⟨⟨⟨⟨g1, g2⟩, g3⟩, g4⟩, g5⟩, g6⟩ := h5
  simp [Cond.before, Cond.holds, Cond.value, h1, h2, h3, h4, g1, g2, g3, g4, g5, g6]
def isCode : Jvm.Cond → Bool
  | .code _ _ _ _ => true
  | _ => false
theorem all_split {L : List Jvm.Cond} {P : Jvm.Cond → Bool} (h1 : L.all (fun c => isCode c || P c) = true) (h2 : ∀ c ∈ L.filter isCode, P c = true) : L.all P = true := by
  refine List.all_eq_true.mpr fun c hc => ?_
  have h := List.all_eq_true.mp h1 c hc
  rcases Bool.eq_false_or_eq_true (isCode c) with hi | hi
  · exact h2 c (List.mem_filter.mpr ⟨hc, hi⟩)
  · simpa [hi] using h
set_option maxRecDepth 65536 in
theorem w_c0 : (Jvm.Cond.code x code maxLocals ret).before args0 about1 = true := code_word (m := ⟨1, 1⟩) (meth := k1m1) (c := k1c1) (by decide +kernel) rfl rfl rfl (by decide +kernel)
set_option maxRecDepth 65536 in
theorem w_c1 : (Jvm.Cond.code ({ cls := "java/lang/Math", name := "min", desc := "(JJ)J" } : Jvm.MethodName) jdk_29_method_70_code (4 : Nat) (Option.some Jvm.ClassFile.FieldType.long)).before args0 about1 = true := code_word (m := ⟨2, 1⟩) (meth := k2m1) (c := k2c1) (by decide +kernel) rfl rfl rfl (by decide +kernel)
set_option maxRecDepth 65536 in
theorem w_c2 : (Jvm.Cond.code ({ cls := "com/example/pactum/pactum/service/Room", name := "<init>", desc := "(J)V" } : Jvm.MethodName) prog_199_method_1_code (3 : Nat) (Option.none : Option Jvm.ClassFile.FieldType)).before args0 about1 = true := code_word (m := ⟨3, 0⟩) (meth := k3m0) (c := k3c0) (by decide +kernel) rfl rfl rfl (by decide +kernel)
set_option maxRecDepth 65536 in
theorem w_c3 : (Jvm.Cond.code ({ cls := "java/lang/Object", name := "<init>", desc := "()V" } : Jvm.MethodName) object_method_1_code (1 : Nat) (Option.none : Option Jvm.ClassFile.FieldType)).before args0 about1 = true := code_word (m := ⟨0, 0⟩) (meth := k0m0) (c := k0c0) (by decide +kernel) rfl rfl rfl (by decide +kernel)
set_option maxRecDepth 65536 in
theorem w_c4 : (Jvm.Cond.code ({ cls := "com/example/pactum/pactum/service/Room", name := "take", desc := "(J)V" } : Jvm.MethodName) prog_199_method_5_code (3 : Nat) (Option.none : Option Jvm.ClassFile.FieldType)).before args0 about1 = true := code_word (m := ⟨3, 3⟩) (meth := k3m3) (c := k3c3) (by decide +kernel) rfl rfl rfl (by decide +kernel)
set_option maxRecDepth 65536 in
theorem w_c5 : (Jvm.Cond.code ({ cls := "com/example/pactum/pactum/service/Room", name := "give", desc := "(J)V" } : Jvm.MethodName) prog_199_method_6_code (3 : Nat) (Option.none : Option Jvm.ClassFile.FieldType)).before args0 about1 = true := code_word (m := ⟨3, 4⟩) (meth := k3m4) (c := k3c4) (by decide +kernel) rfl rfl rfl (by decide +kernel)
set_option maxRecDepth 65536 in
theorem w_c6 : (Jvm.Cond.code ({ cls := "com/example/pactum/pactum/service/Room", name := "taken", desc := "()J" } : Jvm.MethodName) prog_199_method_3_code (1 : Nat) (Option.some Jvm.ClassFile.FieldType.long)).before args0 about1 = true := code_word (m := ⟨3, 1⟩) (meth := k3m1) (c := k3c1) (by decide +kernel) rfl rfl rfl (by decide +kernel)
set_option maxRecDepth 65536 in
theorem w_c7 : (Jvm.Cond.code ({ cls := "com/example/pactum/pactum/service/Room", name := "holds", desc := "(J)Z" } : Jvm.MethodName) prog_199_method_4_code (3 : Nat) (Option.some Jvm.ClassFile.FieldType.boolean)).before args0 about1 = true := code_word (m := ⟨3, 2⟩) (meth := k3m2) (c := k3c2) (by decide +kernel) rfl rfl rfl (by decide +kernel)
def codes1 : List Jvm.Cond := [Jvm.Cond.code x code maxLocals ret, Jvm.Cond.code ({ cls := "java/lang/Math", name := "min", desc := "(JJ)J" } : Jvm.MethodName) jdk_29_method_70_code (4 : Nat) (Option.some Jvm.ClassFile.FieldType.long), Jvm.Cond.code ({ cls := "com/example/pactum/pactum/service/Room", name := "<init>", desc := "(J)V" } : Jvm.MethodName) prog_199_method_1_code (3 : Nat) (Option.none : Option Jvm.ClassFile.FieldType), Jvm.Cond.code ({ cls := "java/lang/Object", name := "<init>", desc := "()V" } : Jvm.MethodName) object_method_1_code (1 : Nat) (Option.none : Option Jvm.ClassFile.FieldType), Jvm.Cond.code ({ cls := "com/example/pactum/pactum/service/Room", name := "take", desc := "(J)V" } : Jvm.MethodName) prog_199_method_5_code (3 : Nat) (Option.none : Option Jvm.ClassFile.FieldType), Jvm.Cond.code ({ cls := "com/example/pactum/pactum/service/Room", name := "give", desc := "(J)V" } : Jvm.MethodName) prog_199_method_6_code (3 : Nat) (Option.none : Option Jvm.ClassFile.FieldType), Jvm.Cond.code ({ cls := "com/example/pactum/pactum/service/Room", name := "taken", desc := "()J" } : Jvm.MethodName) prog_199_method_3_code (1 : Nat) (Option.some Jvm.ClassFile.FieldType.long), Jvm.Cond.code ({ cls := "com/example/pactum/pactum/service/Room", name := "holds", desc := "(J)Z" } : Jvm.MethodName) prog_199_method_4_code (3 : Nat) (Option.some Jvm.ClassFile.FieldType.boolean)]
set_option maxRecDepth 65536 in
theorem codes_eq : words1.filter isCode = codes1 := rfl
theorem w_codes : ∀ c ∈ words1.filter isCode, c.before args0 about1 = true := by
  rw [codes_eq]
  intro c hc
  simp only [codes1, List.mem_cons, List.not_mem_nil, or_false] at hc
  rcases hc with rfl | rfl | rfl | rfl | rfl | rfl | rfl | rfl
  · exact w_c0
  · exact w_c1
  · exact w_c2
  · exact w_c3
  · exact w_c4
  · exact w_c5
  · exact w_c6
  · exact w_c7
set_option maxRecDepth 65536 in
theorem w_t1 : (words1.take 24).all (fun c => isCode c || c.before args0 about1) = true := by decide +kernel
set_option maxRecDepth 65536 in
theorem w_t2 : (words1.drop 24).all (fun c => isCode c || c.before args0 about1) = true := by decide +kernel
theorem w_tables : (allAtoms (Jvm.Cond.code x code maxLocals ret :: tables_1)).before args0 about1 = true := by
  rw [allAtoms_all]
  show words1.all (fun c => c.before args0 about1) = true
  refine all_split ?_ w_codes
  rw [← List.take_append_drop 24 words1, List.all_append, w_t1, w_t2]
  rfl
set_option maxRecDepth 65536 in
theorem w_case : (Jvm.Cond.and given_1 narrow_1).before args0 about1 = true := by decide +kernel
theorem w_applies : (headSpec (Jvm.Cond.code x code maxLocals ret :: tables_1) room_1).applies x e0.platform about1 = true :=
  (Spec.applies_iff w_frames).mpr ⟨w_running, w_runnable, w_alone, w_named, w_hears, w_ripe, w_room, w_tables⟩
theorem atStart : AtStart classFile x code maxLocals ret World_1 tables_1 room_1 Calls_1 rest_1 Pre_1 launch0 p0 e0 about1 theMethod args0 below0 :=
  ⟨lists_1, trivial, launch0.admits_env _ _ _, launch0.least_env, fairChoices_fair.cas, fairChoices_fair.clock, w_frames, w_args, w_heap, w_applies, trivial, trivial, w_case⟩
end start1
theorem witness_1 : WitnessClaimed_1 := ⟨start1.p0, start1.e0, start1.about1, start1.theMethod, start1.args0, start1.below0, start1.atStart⟩
end Jvm.Pilot.@@N@@
