import JvmDerived
import JvmDerived.Pilot.@@N@@Statement
import JvmDerived.Pilot.@@N@@Code
set_option linter.unusedVariables false
set_option linter.unusedSimpArgs false
namespace Jvm.Pilot.@@N@@
open Jvm Jvm.ClassFile Sem Op Lib Jvm.Free Jvm.Stand Jvm.LawKit Jvm.RoadKit Bundle Jvm.Pilot.@@N@@.Jvm.D
abbrev own_Go (p : Program) (e : Env) (below : List Frame) (A B : State) : Prop := ∀ t, Steps p.tables e below A t → Steps p.tables e below B t
section OwnArr
variable {Z : State} {h h' : Heap} {a b : Addr} {ty : FieldType} {n i : Nat} {f : Nat → Value} {v : Value}
def own_Av (Z : State) (h : Heap) (a : Addr) (ty : FieldType) (n : Nat) (f : Nat → Value) : Prop := ∃ c : Cell, Arr Z h a c ty ∧ c.slots.size = n ∧ n < 2 ^ 31 ∧ ∀ j, j < n → c.slots[j]? = some (f j)
theorem own_Av.lt (F : own_Av Z h a ty n f) : a < h.size := by obtain ⟨c, A, -⟩ := F; exact A.lt
theorem own_Av.ext (F : own_Av Z h a ty n f) (E : Ext h h') : own_Av Z h' a ty n f := by obtain ⟨c, A, r⟩ := F; exact ⟨c, A.ext E, r⟩
theorem own_Av.other {sl : Nat} (F : own_Av Z h a ty n f) (W : Wr h h' b sl v) (q : a ≠ b) : own_Av Z h' a ty n f := by obtain ⟨c, A, r⟩ := F; exact ⟨c, A.other W q, r⟩
theorem own_Av.keep {ws : List Addr} (F : own_Av Z h a ty n f) (K : Keep h h' ws) (q : a ∉ ws) : own_Av Z h' a ty n f := by obtain ⟨c, A, r⟩ := F; exact ⟨c, ⟨K.2.1 a c A.1 q, A.2⟩, r⟩
theorem own_Av.congr {g : Nat → Value} (F : own_Av Z h a ty n f) (q : ∀ j, j < n → f j = g j) : own_Av Z h a ty n g := by obtain ⟨c, A, r1, r2, r3⟩ := F; exact ⟨c, A, r1, r2, fun j hj => by rw [r3 j hj, q j hj]⟩
theorem own_Av.new {k : ClassId} {z : Int32} (A : Arr Z h a (newA k ty z) ty) (hz : ¬ z < 0) (hn : z.toNatClampNeg = n) : own_Av Z h a ty n (fun _ => defaultValue ty) := by
  refine ⟨_, A, (sz_new _ _ _).trans hn, hn ▸ (back32 hz).2, fun j hj => ?_⟩
  simp [newA, hn, hj]
theorem own_Av.set (F : own_Av Z h a ty n f) (W : Wr h h' a i v) : own_Av Z h' a ty n (fun q => if q = i then v else f q) := by
  obtain ⟨c, A, r1, r2, r3⟩ := F
  refine ⟨_, A.same W, (sz_set _ _ _).trans r1, r2, fun j hj => ?_⟩
  have e : (c.setSlot i v).slots = c.slots.setIfInBounds i v := rfl
  rw [e, Array.getElem?_setIfInBounds]
  by_cases q : i = j
  · subst q
    simp [r1, hj]
  · have q' : ¬ j = i := fun z => q z.symm
    simp [q, q', r3 j hj]
end OwnArr
section OwnArrSteps
variable {p : Program} {l : Launch} {e : Env} {R : Room} {s : State} {m : MethodId} {args : Array Value} {below : List Frame} {meth : Method} {c : Code} {T : State} {locs : List Loc} {cells slots : Nat} {Z : State} {h : Heap} {a : Addr} {n i : Nat} {f : Nat → Value} {v : Value}
theorem own_in {c : Cell} {j : Int32} (r1 : c.slots.size = n) (h1 : ¬ j < 0) (h2 : j.toNatClampNeg = i) (h3 : i < n) : ¬ (j < 0 ∨ c.slots.size ≤ j.toNatClampNeg) := fun q => q.elim h1 fun z => by rw [r1, h2] at z; exact absurd h3 (Nat.not_lt.mpr z)
theorem own_iaload (X : Stand p l e R s m args below meth c T locs cells slots) (hx : p.tables.exec = Jvm.exec) (hZ : Z.Warmed39 s.vm) (eT : T.heap = h) (F : own_Av Z h a .int n f) {j : Int32} (h1 : ¬ j < 0) (h2 : j.toNatClampNeg = i) (h3 : i < n) (h4 : f i = v)
    {g : JFrame} (hg : g.method = m) {rest : List Value} (hs : g.stack = .int j :: .ref a :: rest) (hd : decode c.code g.pc = .ok (.iaload, 1)) : ∀ target, Steps p.tables e below (T.setTop { g with pc := g.pc + 1, stack := v :: rest }) target → Steps p.tables e below (T.setTop g) target := by
  obtain ⟨cl, A, r1, r2, r3⟩ := F
  intro t k
  exact X.iaload hx (by rw [eT]; exact A.1) (State.isArrayOf_alike hZ.alike A.2.1) A.2.2 (own_in r1 h1 h2 h3) (by rw [h2, r3 i h3, h4]) hg hs hd t k
theorem own_laload (X : Stand p l e R s m args below meth c T locs cells slots) (hx : p.tables.exec = Jvm.exec) (hZ : Z.Warmed39 s.vm) (eT : T.heap = h) (F : own_Av Z h a .long n f) {j : Int32} (h1 : ¬ j < 0) (h2 : j.toNatClampNeg = i) (h3 : i < n) (h4 : f i = v)
    {g : JFrame} (hg : g.method = m) {rest : List Value} (hs : g.stack = .int j :: .ref a :: rest) (hd : decode c.code g.pc = .ok (.laload, 1)) : ∀ target, Steps p.tables e below (T.setTop { g with pc := g.pc + 1, stack := v :: rest }) target → Steps p.tables e below (T.setTop g) target := by
  obtain ⟨cl, A, r1, r2, r3⟩ := F
  intro t k
  exact X.laload hx (by rw [eT]; exact A.1) (State.isArrayOf_alike hZ.alike A.2.1) A.2.2 (own_in r1 h1 h2 h3) (by rw [h2, r3 i h3, h4]) hg hs hd t k
theorem own_aaload {ty : FieldType} (hty : ty.isReference = true) (X : Stand p l e R s m args below meth c T locs cells slots) (hx : p.tables.exec = Jvm.exec) (hZ : Z.Warmed39 s.vm) (eT : T.heap = h) (F : own_Av Z h a ty n f) {j : Int32} (h1 : ¬ j < 0) (h2 : j.toNatClampNeg = i) (h3 : i < n) (h4 : f i = v)
    {g : JFrame} (hg : g.method = m) {rest : List Value} (hs : g.stack = .int j :: .ref a :: rest) (hd : decode c.code g.pc = .ok (.aaload, 1)) : ∀ target, Steps p.tables e below (T.setTop { g with pc := g.pc + 1, stack := v :: rest }) target → Steps p.tables e below (T.setTop g) target := by
  obtain ⟨cl, A, r1, r2, r3⟩ := F
  intro t k
  exact X.aaload hx (by rw [eT]; exact A.1) (State.isArrayOf_alike hZ.alike A.2.1) hty A.2.2 (own_in r1 h1 h2 h3) (by rw [h2, r3 i h3, h4]) hg hs hd t k
theorem own_caload (X : Stand p l e R s m args below meth c T locs cells slots) (hx : p.tables.exec = Jvm.exec) (hZ : Z.Warmed39 s.vm) (eT : T.heap = h) (F : own_Av Z h a .char n f) {j : Int32} (h1 : ¬ j < 0) (h2 : j.toNatClampNeg = i) (h3 : i < n) (h4 : f i = v)
    {g : JFrame} (hg : g.method = m) {rest : List Value} (hs : g.stack = .int j :: .ref a :: rest) (hd : decode c.code g.pc = .ok (.caload, 1)) : ∀ target, Steps p.tables e below (T.setTop { g with pc := g.pc + 1, stack := v :: rest }) target → Steps p.tables e below (T.setTop g) target := by
  obtain ⟨cl, A, r1, r2, r3⟩ := F
  intro t k
  exact X.caload hx (by rw [eT]; exact A.1) (State.isArrayOf_alike hZ.alike A.2.1) A.2.2 (own_in r1 h1 h2 h3) (by rw [h2, r3 i h3, h4]) hg hs hd t k
theorem own_alen {ty : FieldType} (X : Stand p l e R s m args below meth c T locs cells slots) (hx : p.tables.exec = Jvm.exec) (hZ : Z.Warmed39 s.vm) (eT : T.heap = h) (F : own_Av Z h a ty n f)
    {g : JFrame} (hg : g.method = m) {rest : List Value} (hs : g.stack = .ref a :: rest) (hd : decode c.code g.pc = .ok (.arraylength, 1)) : ∀ target, Steps p.tables e below (T.setTop { g with pc := g.pc + 1, stack := .int (Int32.ofNat n) :: rest }) target → Steps p.tables e below (T.setTop g) target := by
  obtain ⟨cl, A, r1, r2, r3⟩ := F
  intro t k
  refine X.arraylength hx (by rw [eT]; exact A.1) (State.isArrayOf_alike hZ.alike A.2.1) hg hs hd t ?_
  rw [r1]
  exact k
theorem own_iastore (X : Stand p l e R s m args below meth c T locs cells slots) (hx : p.tables.exec = Jvm.exec) (hZ : Z.Warmed39 s.vm) (eT : T.heap = h) (F : own_Av Z h a .int n f) {j x : Int32} (h1 : ¬ j < 0) (h2 : j.toNatClampNeg = i) (h3 : i < n)
    {g : JFrame} (hg : g.method = m) {rest : List Value} (hs : g.stack = .int x :: .int j :: .ref a :: rest) (hd : decode c.code g.pc = .ok (.iastore, 1)) :
    ∃ T' h', Stand p l e R s m args below meth c T' (locs ++ [⟨a, i⟩]) cells slots ∧ T'.heap = h' ∧ Wr h h' a i (.int x) ∧ own_Av Z h' a .int n (fun q => if q = i then .int x else f q) ∧ ∀ target, Steps p.tables e below (T'.setTop { g with pc := g.pc + 1, stack := rest }) target → Steps p.tables e below (T.setTop g) target := by
  have F0 := F
  obtain ⟨cl, A, r1, r2, r3⟩ := F
  obtain ⟨T', h', X', e', W', st'⟩ := stI X hx hZ eT A (own_in r1 h1 h2 h3) hg hs hd
  rw [h2] at X' W'
  exact ⟨T', h', X', e', W', F0.set W', st'⟩
theorem own_lastore (X : Stand p l e R s m args below meth c T locs cells slots) (hx : p.tables.exec = Jvm.exec) (hZ : Z.Warmed39 s.vm) (eT : T.heap = h) (F : own_Av Z h a .long n f) {j : Int32} {x : Int64} (h1 : ¬ j < 0) (h2 : j.toNatClampNeg = i) (h3 : i < n)
    {g : JFrame} (hg : g.method = m) {rest : List Value} (hs : g.stack = .long x :: .int j :: .ref a :: rest) (hd : decode c.code g.pc = .ok (.lastore, 1)) :
    ∃ T' h', Stand p l e R s m args below meth c T' (locs ++ [⟨a, i⟩]) cells slots ∧ T'.heap = h' ∧ Wr h h' a i (.long x) ∧ own_Av Z h' a .long n (fun q => if q = i then .long x else f q) ∧ ∀ target, Steps p.tables e below (T'.setTop { g with pc := g.pc + 1, stack := rest }) target → Steps p.tables e below (T.setTop g) target := by
  have F0 := F
  obtain ⟨cl, A, r1, r2, r3⟩ := F
  obtain ⟨T', h', X', e', W', st'⟩ := stJ X hx hZ eT A (own_in r1 h1 h2 h3) hg hs hd
  rw [h2] at X' W'
  exact ⟨T', h', X', e', W', F0.set W', st'⟩
end OwnArrSteps

theorem own_pn0 : plainName "java/lang/Record" = true := by first | (simp [plainName, overriddenIn]; done) | decide +kernel
theorem own_ef2_R (m : MethodId) (x0 : Addr) : entryFrame m #[(.ref x0)] 1 = mkF m 0 #[.val (.ref x0)] [] := by first | (simp [entryFrame, mkF, argsToLocals, Value.category]; done) | rfl
theorem d2_0 : decode jdk_30_method_1_code 0 = .ok (.aload_n 0, 1) := by decide +kernel
theorem d2_1 : decode jdk_30_method_1_code 1 = .ok (.invokespecial 1, 3) := by decide +kernel
theorem d2_4 : decode jdk_30_method_1_code 4 = .ok (.return_, 1) := by decide +kernel
theorem own_pn1 : plainName "com/example/ranked_text_search/rankedtextsearch/Index$Postings" = true := by first | (simp [plainName, overriddenIn]; done) | decide +kernel
theorem own_ef1_RRRR (m : MethodId) (x0 : Addr) (x1 : Addr) (x2 : Addr) (x3 : Addr) : entryFrame m #[(.ref x0), (.ref x1), (.ref x2), (.ref x3)] 4 = mkF m 0 #[.val (.ref x0), .val (.ref x1), .val (.ref x2), .val (.ref x3)] [] := by first | (simp [entryFrame, mkF, argsToLocals, Value.category]; done) | rfl
theorem d1_0 : decode prog_28_method_1_code 0 = .ok (.aload_n 0, 1) := by decide +kernel
theorem d1_1 : decode prog_28_method_1_code 1 = .ok (.invokespecial 1, 3) := by decide +kernel
theorem own_pd0 : parseMethodDescriptor "()V" = some ⟨[], none⟩ := by decide +kernel
theorem d1_4 : decode prog_28_method_1_code 4 = .ok (.aload_n 0, 1) := by decide +kernel
theorem d1_5 : decode prog_28_method_1_code 5 = .ok (.aload_n 1, 1) := by decide +kernel
theorem d1_6 : decode prog_28_method_1_code 6 = .ok (.putfield 7, 3) := by decide +kernel
theorem d1_9 : decode prog_28_method_1_code 9 = .ok (.aload_n 0, 1) := by decide +kernel
theorem d1_10 : decode prog_28_method_1_code 10 = .ok (.aload_n 2, 1) := by decide +kernel
theorem d1_11 : decode prog_28_method_1_code 11 = .ok (.putfield 13, 3) := by decide +kernel
theorem d1_14 : decode prog_28_method_1_code 14 = .ok (.aload_n 0, 1) := by decide +kernel
theorem d1_15 : decode prog_28_method_1_code 15 = .ok (.aload_n 3, 1) := by decide +kernel
theorem d1_16 : decode prog_28_method_1_code 16 = .ok (.putfield 16, 3) := by decide +kernel
theorem d1_19 : decode prog_28_method_1_code 19 = .ok (.return_, 1) := by decide +kernel
theorem own_ef4_RI (m : MethodId) (x0 : Addr) (x1 : Int32) : entryFrame m #[(.ref x0), (.int x1)] 2 = mkF m 0 #[.val (.ref x0), .val (.int x1)] [] := by first | (simp [entryFrame, mkF, argsToLocals, Value.category]; done) | rfl
theorem d4_0 : decode prog_28_method_2_code 0 = .ok (.aload_n 0, 1) := by decide +kernel
theorem d4_1 : decode prog_28_method_2_code 1 = .ok (.getfield 13, 3) := by decide +kernel
theorem d4_4 : decode prog_28_method_2_code 4 = .ok (.iload_n 1, 1) := by decide +kernel
theorem d4_5 : decode prog_28_method_2_code 5 = .ok (.iconst 1, 1) := by decide +kernel
theorem d4_6 : decode prog_28_method_2_code 6 = .ok (.iadd, 1) := by decide +kernel
theorem d4_7 : decode prog_28_method_2_code 7 = .ok (.iaload, 1) := by decide +kernel
theorem d4_8 : decode prog_28_method_2_code 8 = .ok (.aload_n 0, 1) := by decide +kernel
theorem d4_9 : decode prog_28_method_2_code 9 = .ok (.getfield 13, 3) := by decide +kernel
theorem d4_12 : decode prog_28_method_2_code 12 = .ok (.iload_n 1, 1) := by decide +kernel
theorem d4_13 : decode prog_28_method_2_code 13 = .ok (.iaload, 1) := by decide +kernel
theorem d4_14 : decode prog_28_method_2_code 14 = .ok (.isub, 1) := by decide +kernel
theorem d4_15 : decode prog_28_method_2_code 15 = .ok (.ireturn, 1) := by decide +kernel
theorem own_pn2 : plainName "com/example/ranked_text_search/rankedtextsearch/PostingsFrequencyPinLaw" = true := by first | (simp [plainName, overriddenIn]; done) | decide +kernel
theorem own_ef0_IIII (m : MethodId) (x0 : Int32) (x1 : Int32) (x2 : Int32) (x3 : Int32) : entryFrame m #[(.int x0), (.int x1), (.int x2), (.int x3)] maxLocals = mkF m 0 #[.val (.int x0), .val (.int x1), .val (.int x2), .val (.int x3), .unset, .unset, .unset] [] := by first | (simp [entryFrame, mkF, argsToLocals, Value.category, maxLocals]; done) | rfl
theorem own_pd1 : parseMethodDescriptor "([I[I[I)V" = some ⟨[(.array .int), (.array .int), (.array .int)], none⟩ := by decide +kernel
theorem own_pd2 : parseMethodDescriptor "(I)I" = some ⟨[.int], some .int⟩ := by decide +kernel
def Q_rm_record (Z : State) (ao : Addr) (h0 : Heap) (n0 : Nat) (v : Option Value) (h : Heap) (L : List Loc) : Prop := v = none ∧ Fr n0 L ∧ h = h0
set_option maxRecDepth 65536 in
set_option maxHeartbeats 40000000 in
theorem rm_record (l : Launch) (Z : State) (a0 : Array Value) (hw : ∀ d ∈ tables_1, d.before a0 Z = true) (ws : List Jvm.Cond) (ao : Addr) (h0 : Heap) (n0 : Nat) (Z0 : n0 ≤ h0.size) :
    MetFree l (⟨"java/lang/Record", "<init>", "()V"⟩ : MethodName) (head1 (Jvm.Cond.code (⟨"java/lang/Record", "<init>", "()V"⟩ : MethodName) jdk_30_method_1_code 1 none :: ws) ({ frames := 1, cells := 0, slots := 0, locals := 12 } : Room)) (fun a U => a = #[(.ref ao)] ∧ Z.Warmed39 U.vm ∧ U.heap = h0) (fun _ _ _ _ _ => True) (fun _ U o U' => ∃ v L, o = .returned v ∧ Q_rm_record Z ao h0 n0 v U'.heap L ∧ FrameEnd U o U' L ({ frames := 1, cells := 0, slots := 0, locals := 12 } : Room).cells ({ frames := 1, cells := 0, slots := 0, locals := 12 } : Room).slots) := by
  refine MetFree.of_bodySF (plainFor_of_name own_pn0) hisR ?_
  intro p e s m args below meth c s₁ Bd hml0 hP hK
  obtain ⟨rfl, hZ, hh⟩ := hP
  have hx := Bd.exec
  have hby := Bd.bytes
  have hml : c.maxLocals = 1 := hml0
  have hown : s.vm.findClass "java/lang/Record" = some m.cls := findClass_of_methodNamed Bd.named
  have hnm := (name_of_methodNamed Bd.named Bd.method).1
  have X0 : Stand p l e ({ frames := 1, cells := 0, slots := 0, locals := 12 } : Room) s m #[(.ref ao)] below meth c s₁ [] 0 0 := Stand.of_body Bd
  have e0 : s₁.heap = h0 := by rw [← hh, Bd.state]; rfl
  have N0 := Fr.nil n0
  have st0 : own_Go p e below (s₁.setTop (mkF m 0 #[.val (.ref ao)] [])) (s₁.setTop (entryFrame m #[(.ref ao)] 1)) := fun t k => castTop (own_ef2_R m ao) k
  have st1 : own_Go p e below (s₁.setTop (mkF m 1 #[.val (.ref ao)] [(.ref ao)])) (s₁.setTop (entryFrame m #[(.ref ao)] 1)) := fun t kt => st0 t (by
    show Steps p.tables e below (s₁.setTop (mkF m 0 #[.val (.ref ao)] [])) _
    refine XS.aloadN X0.here hx rfl (hb hby d2_0) rfl rfl ?_
    show Steps p.tables e below (s₁.setTop (mkF m 1 #[.val (.ref ao)] [(.ref ao)])) _
    exact kt)
  obtain ⟨T2, X2, e2, ls2⟩ := initO X0 hx hZ hown (hw _ (List.mem_of_getElem? (i := 12) rfl)) (hw _ (List.mem_of_getElem? (i := 13) rfl)) (hw _ (List.mem_of_getElem? (i := 14) rfl)) e0 (g := (mkF m 1 #[.val (.ref ao)] [(.ref ao)])) rfl (by rw [hml]; rfl) rfl (hb hby d2_1) (by decide) (W := 0) (by show 2 * 0 + _ ≤ _; exact Nat.le_of_eq rfl) (by decide)
  have st3 : own_Go p e below (T2.setTop (mkF m 4 #[.val (.ref ao)] [])) (s₁.setTop (entryFrame m #[(.ref ao)] 1)) := fun t kt => st1 t (ls2 t kt)
  obtain ⟨fs, hr, hrun, hended, hW, hsame⟩ := X2.leave (v := none) (fun _ => rfl)
  refine ⟨_, _, st3 _ ?_, hrun, hended, _, _, rfl, ?_, ⟨_, rfl⟩, hW, hsame.mono (by decide) (by decide)⟩
  · exact X2.returnOut hx Bd.returns (hb hby d2_4) hr
  · show Q_rm_record Z ao h0 n0 _ T2.heap _
    rw [e2]
    exact ⟨rfl, N0, rfl⟩
def Q_rm_init (Z : State) (ao : Addr) (ad : Addr) (ast : Addr) (apo : Addr) (h0 : Heap) (n0 : Nat) (v : Option Value) (h : Heap) (L : List Loc) : Prop := v = none ∧ Fr n0 L ∧ Keep h0 h [ao] ∧ Fld Z h ao "com/example/ranked_text_search/rankedtextsearch/Index$Postings" "documents" "[I" (.ref ad) ∧ Fld Z h ao "com/example/ranked_text_search/rankedtextsearch/Index$Postings" "starts" "[I" (.ref ast) ∧ Fld Z h ao "com/example/ranked_text_search/rankedtextsearch/Index$Postings" "positions" "[I" (.ref apo)
set_option maxRecDepth 65536 in
set_option maxHeartbeats 40000000 in
theorem rm_init (l : Launch) (Z : State) (a0 : Array Value) (hw : ∀ d ∈ tables_1, d.before a0 Z = true) (ws : List Jvm.Cond) (ao : Addr) (ad : Addr) (ast : Addr) (apo : Addr) (h0 : Heap) (n0 : Nat) (Z0 : n0 ≤ h0.size) (F_documents_ao : Fld Z h0 ao "com/example/ranked_text_search/rankedtextsearch/Index$Postings" "documents" "[I" .null) (F_starts_ao : Fld Z h0 ao "com/example/ranked_text_search/rankedtextsearch/Index$Postings" "starts" "[I" .null) (F_positions_ao : Fld Z h0 ao "com/example/ranked_text_search/rankedtextsearch/Index$Postings" "positions" "[I" .null) (E_ao : Exa Z h0 ao "com/example/ranked_text_search/rankedtextsearch/Index$Postings") (g_ao : n0 ≤ ao) :
    MetFree l (⟨"com/example/ranked_text_search/rankedtextsearch/Index$Postings", "<init>", "([I[I[I)V"⟩ : MethodName) (head1 (Jvm.Cond.code (⟨"com/example/ranked_text_search/rankedtextsearch/Index$Postings", "<init>", "([I[I[I)V"⟩ : MethodName) prog_28_method_1_code 4 none :: ws) ({ frames := 2, cells := 0, slots := 0, locals := 24 } : Room)) (fun a U => a = #[(.ref ao), (.ref ad), (.ref ast), (.ref apo)] ∧ Z.Warmed39 U.vm ∧ U.heap = h0) (fun _ _ _ _ _ => True) (fun _ U o U' => ∃ v L, o = .returned v ∧ Q_rm_init Z ao ad ast apo h0 n0 v U'.heap L ∧ FrameEnd U o U' L ({ frames := 2, cells := 0, slots := 0, locals := 24 } : Room).cells ({ frames := 2, cells := 0, slots := 0, locals := 24 } : Room).slots) := by
  refine MetFree.of_bodySF (plainFor_of_name own_pn1) hisR ?_
  intro p e s m args below meth c s₁ Bd hml0 hP hK
  obtain ⟨rfl, hZ, hh⟩ := hP
  have hx := Bd.exec
  have hby := Bd.bytes
  have hml : c.maxLocals = 4 := hml0
  have hown : s.vm.findClass "com/example/ranked_text_search/rankedtextsearch/Index$Postings" = some m.cls := findClass_of_methodNamed Bd.named
  have hnm := (name_of_methodNamed Bd.named Bd.method).1
  have X0 : Stand p l e ({ frames := 2, cells := 0, slots := 0, locals := 24 } : Room) s m #[(.ref ao), (.ref ad), (.ref ast), (.ref apo)] below meth c s₁ [] 0 0 := Stand.of_body Bd
  have e0 : s₁.heap = h0 := by rw [← hh, Bd.state]; rfl
  have N0 := Fr.nil n0
  have st0 : own_Go p e below (s₁.setTop (mkF m 0 #[.val (.ref ao), .val (.ref ad), .val (.ref ast), .val (.ref apo)] [])) (s₁.setTop (entryFrame m #[(.ref ao), (.ref ad), (.ref ast), (.ref apo)] 4)) := fun t k => castTop (own_ef1_RRRR m ao ad ast apo) k
  have k0 : Keep h0 h0 [ao] := Keep.refl _ _
  have st1 : own_Go p e below (s₁.setTop (mkF m 1 #[.val (.ref ao), .val (.ref ad), .val (.ref ast), .val (.ref apo)] [(.ref ao)])) (s₁.setTop (entryFrame m #[(.ref ao), (.ref ad), (.ref ast), (.ref apo)] 4)) := fun t kt => st0 t (by
    show Steps p.tables e below (s₁.setTop (mkF m 0 #[.val (.ref ao), .val (.ref ad), .val (.ref ast), .val (.ref apo)] [])) _
    refine XS.aloadN X0.here hx rfl (hb hby d1_0) rfl rfl ?_
    show Steps p.tables e below (s₁.setTop (mkF m 1 #[.val (.ref ao), .val (.ref ad), .val (.ref ast), .val (.ref apo)] [(.ref ao)])) _
    exact kt)
  obtain ⟨_, _, ⟨T2, L2, k2, n2⟩, -, X2, ⟨Lc2, hQ2, l2, y2, z2⟩, ls2⟩ := X0.specialBack hx (y := (⟨"java/lang/Record", "<init>", "()V"⟩ : MethodName)) rfl hown (mvT hZ (hw _ (List.mem_of_getElem? (i := 7) rfl))) (mvT hZ (hw _ (List.mem_of_getElem? (i := 8) rfl))) (mvT hZ (hw _ (List.mem_of_getElem? (i := 11) rfl))) (by decide) (backOf (W := 0) (rm_record l Z a0 hw [] ao h0 n0 Z0) hZ (hw _ (List.mem_of_getElem? (i := 11) rfl)) (hw _ (List.mem_of_getElem? (i := 10) rfl)) (by decide) (by decide)) (g := (mkF m 1 #[.val (.ref ao), .val (.ref ad), .val (.ref ast), .val (.ref apo)] [(.ref ao)])) rfl (by rw [hml]; rfl) (Steps.refl _) (a := ao) (argsL := []) (rest := []) (lenOf own_pd0 rfl) rfl (by show 2 * 0 + _ ≤ _; exact Nat.le_of_eq rfl) (hb hby d1_1) (fun _ _ => ⟨rfl, e0, (by decide : 0 + 0 ≤ _), (by decide : 0 + 0 ≤ _)⟩)
  dsimp only [Pt.U, Pt.locs, Pt.cells, Pt.slots] at X2 l2 y2 z2 ls2 hQ2
  subst l2 y2 z2
  obtain ⟨rfl, Nq2, eq2⟩ := hQ2
  have N2 := Fr.app N0 Nq2
  have st3 : own_Go p e below (T2.setTop (mkF m 4 #[.val (.ref ao), .val (.ref ad), .val (.ref ast), .val (.ref apo)] [])) (s₁.setTop (entryFrame m #[(.ref ao), (.ref ad), (.ref ast), (.ref apo)] 4)) := fun t kt => st1 t (ls2.trans kt)
  have st4 : own_Go p e below (T2.setTop (mkF m 6 #[.val (.ref ao), .val (.ref ad), .val (.ref ast), .val (.ref apo)] [(.ref ad), (.ref ao)])) (s₁.setTop (entryFrame m #[(.ref ao), (.ref ad), (.ref ast), (.ref apo)] 4)) := fun t kt => st3 t (by
    show Steps p.tables e below (T2.setTop (mkF m 4 #[.val (.ref ao), .val (.ref ad), .val (.ref ast), .val (.ref apo)] [])) _
    refine XS.aloadN X2.here hx rfl (hb hby d1_4) rfl rfl ?_
    show Steps p.tables e below (T2.setTop (mkF m 5 #[.val (.ref ao), .val (.ref ad), .val (.ref ast), .val (.ref apo)] [(.ref ao)])) _
    refine XS.aloadN X2.here hx rfl (hb hby d1_5) rfl rfl ?_
    show Steps p.tables e below (T2.setTop (mkF m 6 #[.val (.ref ao), .val (.ref ad), .val (.ref ast), .val (.ref apo)] [(.ref ad), (.ref ao)])) _
    exact kt)
  obtain ⟨T5, h5, X5, e5, W5, ls5⟩ := putF X2 hx hZ hown (host := "") (Or.inl (hw _ (List.mem_of_getElem? (i := 15) rfl))) Via.refl eq2 F_documents_ao E_ao (Or.inr ⟨(hw _ (List.mem_of_getElem? (i := 16) rfl)), rfl, hnm⟩) (hw _ (List.mem_of_getElem? (i := 2) rfl)) (ty := (.array .int)) (by decide) rfl rfl (g := (mkF m 6 #[.val (.ref ao), .val (.ref ad), .val (.ref ast), .val (.ref apo)] [(.ref ad), (.ref ao)])) rfl rfl (hb hby d1_6)
  have N5 := Fr.snoc X5 N2 g_ao
  have f6 := F_documents_ao.same W5
  have f7 := F_starts_ao.other W5 (Or.inr (slot_ne (Or.inr (hw _ (List.mem_of_getElem? (i := 18) rfl))) (Or.inr (hw _ (List.mem_of_getElem? (i := 16) rfl))) (by decide) (t := (.array .int)) (t' := (.array .int)) (by decide) (by decide)))
  have f8 := F_positions_ao.other W5 (Or.inr (slot_ne (Or.inr (hw _ (List.mem_of_getElem? (i := 20) rfl))) (Or.inr (hw _ (List.mem_of_getElem? (i := 16) rfl))) (by decide) (t := (.array .int)) (t' := (.array .int)) (by decide) (by decide)))
  have f9 := E_ao.wr W5
  have z10 := Nat.le_trans Z0 (Keep.of_wr W5).1
  have k11 := k0.wr W5 (Or.inl (List.mem_of_getElem? (i := 0) rfl))
  have st12 : own_Go p e below (T5.setTop (mkF m 9 #[.val (.ref ao), .val (.ref ad), .val (.ref ast), .val (.ref apo)] [])) (s₁.setTop (entryFrame m #[(.ref ao), (.ref ad), (.ref ast), (.ref apo)] 4)) := fun t kt => st4 t (ls5 t kt)
  have st13 : own_Go p e below (T5.setTop (mkF m 11 #[.val (.ref ao), .val (.ref ad), .val (.ref ast), .val (.ref apo)] [(.ref ast), (.ref ao)])) (s₁.setTop (entryFrame m #[(.ref ao), (.ref ad), (.ref ast), (.ref apo)] 4)) := fun t kt => st12 t (by
    show Steps p.tables e below (T5.setTop (mkF m 9 #[.val (.ref ao), .val (.ref ad), .val (.ref ast), .val (.ref apo)] [])) _
    refine XS.aloadN X5.here hx rfl (hb hby d1_9) rfl rfl ?_
    show Steps p.tables e below (T5.setTop (mkF m 10 #[.val (.ref ao), .val (.ref ad), .val (.ref ast), .val (.ref apo)] [(.ref ao)])) _
    refine XS.aloadN X5.here hx rfl (hb hby d1_10) rfl rfl ?_
    show Steps p.tables e below (T5.setTop (mkF m 11 #[.val (.ref ao), .val (.ref ad), .val (.ref ast), .val (.ref apo)] [(.ref ast), (.ref ao)])) _
    exact kt)
  obtain ⟨T14, h14, X14, e14, W14, ls14⟩ := putF X5 hx hZ hown (host := "") (Or.inl (hw _ (List.mem_of_getElem? (i := 17) rfl))) Via.refl e5 f7 f9 (Or.inr ⟨(hw _ (List.mem_of_getElem? (i := 18) rfl)), rfl, hnm⟩) (hw _ (List.mem_of_getElem? (i := 2) rfl)) (ty := (.array .int)) (by decide) rfl rfl (g := (mkF m 11 #[.val (.ref ao), .val (.ref ad), .val (.ref ast), .val (.ref apo)] [(.ref ast), (.ref ao)])) rfl rfl (hb hby d1_11)
  have N14 := Fr.snoc X14 N5 g_ao
  have f15 := f6.other W14 (Or.inr (slot_ne (Or.inr (hw _ (List.mem_of_getElem? (i := 16) rfl))) (Or.inr (hw _ (List.mem_of_getElem? (i := 18) rfl))) (by decide) (t := (.array .int)) (t' := (.array .int)) (by decide) (by decide)))
  have f16 := f7.same W14
  have f17 := f8.other W14 (Or.inr (slot_ne (Or.inr (hw _ (List.mem_of_getElem? (i := 20) rfl))) (Or.inr (hw _ (List.mem_of_getElem? (i := 18) rfl))) (by decide) (t := (.array .int)) (t' := (.array .int)) (by decide) (by decide)))
  have f18 := f9.wr W14
  have z19 := Nat.le_trans z10 (Keep.of_wr W14).1
  have k20 := k11.wr W14 (Or.inl (List.mem_of_getElem? (i := 0) rfl))
  have st21 : own_Go p e below (T14.setTop (mkF m 14 #[.val (.ref ao), .val (.ref ad), .val (.ref ast), .val (.ref apo)] [])) (s₁.setTop (entryFrame m #[(.ref ao), (.ref ad), (.ref ast), (.ref apo)] 4)) := fun t kt => st13 t (ls14 t kt)
  have st22 : own_Go p e below (T14.setTop (mkF m 16 #[.val (.ref ao), .val (.ref ad), .val (.ref ast), .val (.ref apo)] [(.ref apo), (.ref ao)])) (s₁.setTop (entryFrame m #[(.ref ao), (.ref ad), (.ref ast), (.ref apo)] 4)) := fun t kt => st21 t (by
    show Steps p.tables e below (T14.setTop (mkF m 14 #[.val (.ref ao), .val (.ref ad), .val (.ref ast), .val (.ref apo)] [])) _
    refine XS.aloadN X14.here hx rfl (hb hby d1_14) rfl rfl ?_
    show Steps p.tables e below (T14.setTop (mkF m 15 #[.val (.ref ao), .val (.ref ad), .val (.ref ast), .val (.ref apo)] [(.ref ao)])) _
    refine XS.aloadN X14.here hx rfl (hb hby d1_15) rfl rfl ?_
    show Steps p.tables e below (T14.setTop (mkF m 16 #[.val (.ref ao), .val (.ref ad), .val (.ref ast), .val (.ref apo)] [(.ref apo), (.ref ao)])) _
    exact kt)
  obtain ⟨T23, h23, X23, e23, W23, ls23⟩ := putF X14 hx hZ hown (host := "") (Or.inl (hw _ (List.mem_of_getElem? (i := 19) rfl))) Via.refl e14 f17 f18 (Or.inr ⟨(hw _ (List.mem_of_getElem? (i := 20) rfl)), rfl, hnm⟩) (hw _ (List.mem_of_getElem? (i := 2) rfl)) (ty := (.array .int)) (by decide) rfl rfl (g := (mkF m 16 #[.val (.ref ao), .val (.ref ad), .val (.ref ast), .val (.ref apo)] [(.ref apo), (.ref ao)])) rfl rfl (hb hby d1_16)
  have N23 := Fr.snoc X23 N14 g_ao
  have f24 := f15.other W23 (Or.inr (slot_ne (Or.inr (hw _ (List.mem_of_getElem? (i := 16) rfl))) (Or.inr (hw _ (List.mem_of_getElem? (i := 20) rfl))) (by decide) (t := (.array .int)) (t' := (.array .int)) (by decide) (by decide)))
  have f25 := f16.other W23 (Or.inr (slot_ne (Or.inr (hw _ (List.mem_of_getElem? (i := 18) rfl))) (Or.inr (hw _ (List.mem_of_getElem? (i := 20) rfl))) (by decide) (t := (.array .int)) (t' := (.array .int)) (by decide) (by decide)))
  have f26 := f17.same W23
  have f27 := f18.wr W23
  have z28 := Nat.le_trans z19 (Keep.of_wr W23).1
  have k29 := k20.wr W23 (Or.inl (List.mem_of_getElem? (i := 0) rfl))
  have st30 : own_Go p e below (T23.setTop (mkF m 19 #[.val (.ref ao), .val (.ref ad), .val (.ref ast), .val (.ref apo)] [])) (s₁.setTop (entryFrame m #[(.ref ao), (.ref ad), (.ref ast), (.ref apo)] 4)) := fun t kt => st22 t (ls23 t kt)
  obtain ⟨fs, hr, hrun, hended, hW, hsame⟩ := X23.leave (v := none) (fun _ => rfl)
  refine ⟨_, _, st30 _ ?_, hrun, hended, _, _, rfl, ?_, ⟨_, rfl⟩, hW, hsame.mono (by decide) (by decide)⟩
  · exact X23.returnOut hx Bd.returns (hb hby d1_19) hr
  · show Q_rm_init Z ao ad ast apo h0 n0 _ T23.heap _
    rw [e23]
    exact ⟨rfl, N23, k29, f24, f25, f26⟩
def Q_rm_freq (Z : State) (ao : Addr) (u : Int32) (ast : Addr) (n : Nat) (k : Nat) (f : Nat → Value) (x0 : Int32) (x1 : Int32) (h0 : Heap) (n0 : Nat) (v : Option Value) (h : Heap) (L : List Loc) : Prop := v = some (.int (x1 - x0)) ∧ Fr n0 L ∧ h = h0
set_option maxRecDepth 65536 in
set_option maxHeartbeats 40000000 in
theorem rm_freq (l : Launch) (Z : State) (a0 : Array Value) (hw : ∀ d ∈ tables_1, d.before a0 Z = true) (ws : List Jvm.Cond) (ao : Addr) (u : Int32) (ast : Addr) (n : Nat) (k : Nat) (f : Nat → Value) (x0 : Int32) (x1 : Int32) (h0 : Heap) (n0 : Nat) (Z0 : n0 ≤ h0.size) (F_starts_ao : Fld Z h0 ao "com/example/ranked_text_search/rankedtextsearch/Index$Postings" "starts" "[I" (.ref ast)) (Av : own_Av Z h0 ast .int n f) (i1 : ¬ u < 0) (i2 : u.toNatClampNeg = k) (i3 : k + 1 < n) (i4 : ¬ (u + 1) < 0) (i5 : (u + 1).toNatClampNeg = k + 1) (i6 : f k = .int x0) (i7 : f (k + 1) = .int x1) :
    MetFree l (⟨"com/example/ranked_text_search/rankedtextsearch/Index$Postings", "frequency", "(I)I"⟩ : MethodName) (head1 (Jvm.Cond.code (⟨"com/example/ranked_text_search/rankedtextsearch/Index$Postings", "frequency", "(I)I"⟩ : MethodName) prog_28_method_2_code 2 (some .int) :: ws) ({ frames := 0, cells := 0, slots := 0, locals := 0 } : Room)) (fun a U => a = #[(.ref ao), (.int u)] ∧ Z.Warmed39 U.vm ∧ U.heap = h0) (fun _ _ _ _ _ => True) (fun _ U o U' => ∃ v L, o = .returned v ∧ Q_rm_freq Z ao u ast n k f x0 x1 h0 n0 v U'.heap L ∧ FrameEnd U o U' L ({ frames := 0, cells := 0, slots := 0, locals := 0 } : Room).cells ({ frames := 0, cells := 0, slots := 0, locals := 0 } : Room).slots) := by
  refine MetFree.of_bodySF (plainFor_of_name own_pn1) hisR ?_
  intro p e s m args below meth c s₁ Bd hml0 hP hK
  obtain ⟨rfl, hZ, hh⟩ := hP
  have hx := Bd.exec
  have hby := Bd.bytes
  have hml : c.maxLocals = 2 := hml0
  have hown : s.vm.findClass "com/example/ranked_text_search/rankedtextsearch/Index$Postings" = some m.cls := findClass_of_methodNamed Bd.named
  have hnm := (name_of_methodNamed Bd.named Bd.method).1
  have X0 : Stand p l e ({ frames := 0, cells := 0, slots := 0, locals := 0 } : Room) s m #[(.ref ao), (.int u)] below meth c s₁ [] 0 0 := Stand.of_body Bd
  have e0 : s₁.heap = h0 := by rw [← hh, Bd.state]; rfl
  have N0 := Fr.nil n0
  have st0 : own_Go p e below (s₁.setTop (mkF m 0 #[.val (.ref ao), .val (.int u)] [])) (s₁.setTop (entryFrame m #[(.ref ao), (.int u)] 2)) := fun t k => castTop (own_ef4_RI m ao u) k
  have st1 : own_Go p e below (s₁.setTop (mkF m 1 #[.val (.ref ao), .val (.int u)] [(.ref ao)])) (s₁.setTop (entryFrame m #[(.ref ao), (.int u)] 2)) := fun t kt => st0 t (by
    show Steps p.tables e below (s₁.setTop (mkF m 0 #[.val (.ref ao), .val (.int u)] [])) _
    refine XS.aloadN X0.here hx rfl (hb hby d4_0) rfl rfl ?_
    show Steps p.tables e below (s₁.setTop (mkF m 1 #[.val (.ref ao), .val (.int u)] [(.ref ao)])) _
    exact kt)
  obtain ⟨T2, X2, e2, ls2⟩ := getF X0 hx hZ hown (host := "") (Or.inl (hw _ (List.mem_of_getElem? (i := 17) rfl))) Via.refl e0 F_starts_ao (g := (mkF m 1 #[.val (.ref ao), .val (.int u)] [(.ref ao)])) rfl rfl (hb hby d4_1)
  have st3 : own_Go p e below (T2.setTop (mkF m 4 #[.val (.ref ao), .val (.int u)] [(.ref ast)])) (s₁.setTop (entryFrame m #[(.ref ao), (.int u)] 2)) := fun t kt => st1 t (ls2 t kt)
  have st4 : own_Go p e below (T2.setTop (mkF m 7 #[.val (.ref ao), .val (.int u)] [(.int (u + (1 : Int32))), (.ref ast)])) (s₁.setTop (entryFrame m #[(.ref ao), (.int u)] 2)) := fun t kt => st3 t (by
    show Steps p.tables e below (T2.setTop (mkF m 4 #[.val (.ref ao), .val (.int u)] [(.ref ast)])) _
    refine XS.iloadN X2.here hx rfl (hb hby d4_4) rfl ?_
    show Steps p.tables e below (T2.setTop (mkF m 5 #[.val (.ref ao), .val (.int u)] [(.int u), (.ref ast)])) _
    refine XS.iconst X2.here hx rfl (hb hby d4_5) ?_
    show Steps p.tables e below (T2.setTop (mkF m 6 #[.val (.ref ao), .val (.int u)] [(.int (1 : Int32)), (.int u), (.ref ast)])) _
    refine XS.iadd X2.here hx rfl (hb hby d4_6) rfl ?_
    show Steps p.tables e below (T2.setTop (mkF m 7 #[.val (.ref ao), .val (.int u)] [(.int (u + (1 : Int32))), (.ref ast)])) _
    exact kt)
  have ls5 := own_iaload X2 hx hZ e2 Av (j := (u + (1 : Int32))) (i := k + 1) (i4) (i5) (i3) (v := (.int x1)) (i7) (g := (mkF m 7 #[.val (.ref ao), .val (.int u)] [(.int (u + (1 : Int32))), (.ref ast)])) rfl rfl (hb hby d4_7)
  have st6 : own_Go p e below (T2.setTop (mkF m 8 #[.val (.ref ao), .val (.int u)] [(.int x1)])) (s₁.setTop (entryFrame m #[(.ref ao), (.int u)] 2)) := fun t kt => st4 t (ls5 t kt)
  have st7 : own_Go p e below (T2.setTop (mkF m 9 #[.val (.ref ao), .val (.int u)] [(.ref ao), (.int x1)])) (s₁.setTop (entryFrame m #[(.ref ao), (.int u)] 2)) := fun t kt => st6 t (by
    show Steps p.tables e below (T2.setTop (mkF m 8 #[.val (.ref ao), .val (.int u)] [(.int x1)])) _
    refine XS.aloadN X2.here hx rfl (hb hby d4_8) rfl rfl ?_
    show Steps p.tables e below (T2.setTop (mkF m 9 #[.val (.ref ao), .val (.int u)] [(.ref ao), (.int x1)])) _
    exact kt)
  obtain ⟨T8, X8, e8, ls8⟩ := getF X2 hx hZ hown (host := "") (Or.inl (hw _ (List.mem_of_getElem? (i := 17) rfl))) Via.refl e2 F_starts_ao (g := (mkF m 9 #[.val (.ref ao), .val (.int u)] [(.ref ao), (.int x1)])) rfl rfl (hb hby d4_9)
  have st9 : own_Go p e below (T8.setTop (mkF m 12 #[.val (.ref ao), .val (.int u)] [(.ref ast), (.int x1)])) (s₁.setTop (entryFrame m #[(.ref ao), (.int u)] 2)) := fun t kt => st7 t (ls8 t kt)
  have st10 : own_Go p e below (T8.setTop (mkF m 13 #[.val (.ref ao), .val (.int u)] [(.int u), (.ref ast), (.int x1)])) (s₁.setTop (entryFrame m #[(.ref ao), (.int u)] 2)) := fun t kt => st9 t (by
    show Steps p.tables e below (T8.setTop (mkF m 12 #[.val (.ref ao), .val (.int u)] [(.ref ast), (.int x1)])) _
    refine XS.iloadN X8.here hx rfl (hb hby d4_12) rfl ?_
    show Steps p.tables e below (T8.setTop (mkF m 13 #[.val (.ref ao), .val (.int u)] [(.int u), (.ref ast), (.int x1)])) _
    exact kt)
  have ls11 := own_iaload X8 hx hZ e8 Av (j := u) (i := k) (i1) (i2) (Nat.lt_of_succ_lt i3) (v := (.int x0)) (i6) (g := (mkF m 13 #[.val (.ref ao), .val (.int u)] [(.int u), (.ref ast), (.int x1)])) rfl rfl (hb hby d4_13)
  have st12 : own_Go p e below (T8.setTop (mkF m 14 #[.val (.ref ao), .val (.int u)] [(.int x0), (.int x1)])) (s₁.setTop (entryFrame m #[(.ref ao), (.int u)] 2)) := fun t kt => st10 t (ls11 t kt)
  have st13 : own_Go p e below (T8.setTop (mkF m 15 #[.val (.ref ao), .val (.int u)] [(.int (x1 - x0))])) (s₁.setTop (entryFrame m #[(.ref ao), (.int u)] 2)) := fun t kt => st12 t (by
    show Steps p.tables e below (T8.setTop (mkF m 14 #[.val (.ref ao), .val (.int u)] [(.int x0), (.int x1)])) _
    refine XS.isub X8.here hx rfl (hb hby d4_14) rfl ?_
    show Steps p.tables e below (T8.setTop (mkF m 15 #[.val (.ref ao), .val (.int u)] [(.int (x1 - x0))])) _
    exact kt)
  obtain ⟨fs, hr, hrun, hended, hW, hsame⟩ := X8.leave (v := (some (.int (x1 - x0)))) (fun h => by rw [Bd.returns] at h; cases h)
  refine ⟨_, _, st13 _ ?_, hrun, hended, _, _, rfl, ?_, ⟨_, rfl⟩, hW, hsame.mono (by decide) (by decide)⟩
  · exact retOut X8 hx Bd.returns rfl (Or.inl ⟨rfl, Or.inl rfl, _, rfl⟩) (hb hby d4_15) hr
  · show Q_rm_freq Z ao u ast n k f x0 x1 h0 n0 _ T8.heap _
    rw [e8]
    exact ⟨rfl, N0, rfl⟩
def Q_rm_law (Z : State) (xb : Int32) (x0 : Int32) (x1 : Int32) (x2 : Int32) (h0 : Heap) (n0 : Nat) (v : Option Value) (h : Heap) (L : List Loc) : Prop := v = some (.int 1) ∧ Fr n0 L
set_option maxRecDepth 65536 in
set_option maxHeartbeats 40000000 in
theorem rm_law (l : Launch) (Z : State) (a0 : Array Value) (hw : ∀ d ∈ tables_1, d.before a0 Z = true) (ws : List Jvm.Cond) (xb : Int32) (x0 : Int32) (x1 : Int32) (x2 : Int32) (h0 : Heap) (n0 : Nat) (Z0 : n0 ≤ h0.size) :
    MetFree l x (head1 (Jvm.Cond.code x code maxLocals ret :: ws) room_1) (fun a U => a = #[(.int xb), (.int x0), (.int x1), (.int x2)] ∧ Z.Warmed39 U.vm ∧ U.heap = h0) (fun _ _ _ _ _ => True) (fun _ U o U' => ∃ v L, o = .returned v ∧ Q_rm_law Z xb x0 x1 x2 h0 n0 v U'.heap L ∧ FrameEnd U o U' L room_1.cells room_1.slots) := by
  refine MetFree.of_bodySF (plainFor_of_name own_pn2) hisR ?_
  intro p e s m args below meth c s₁ Bd hml0 hP hK
  obtain ⟨rfl, hZ, hh⟩ := hP
  have hx := Bd.exec
  have hby := Bd.bytes
  have hml : c.maxLocals = 7 := hml0
  have hown : s.vm.findClass "com/example/ranked_text_search/rankedtextsearch/PostingsFrequencyPinLaw" = some m.cls := findClass_of_methodNamed Bd.named
  have hnm := (name_of_methodNamed Bd.named Bd.method).1
  have X0 : Stand p l e room_1 s m #[(.int xb), (.int x0), (.int x1), (.int x2)] below meth c s₁ [] 0 0 := Stand.of_body Bd
  have e0 : s₁.heap = h0 := by rw [← hh, Bd.state]; rfl
  have N0 := Fr.nil n0
  have st0 : own_Go p e below (s₁.setTop (mkF m 0 #[.val (.int xb), .val (.int x0), .val (.int x1), .val (.int x2), .unset, .unset, .unset] [])) (s₁.setTop (entryFrame m #[(.int xb), (.int x0), (.int x1), (.int x2)] maxLocals)) := fun t k => castTop (own_ef0_IIII m xb x0 x1 x2) k
  have st1 : own_Go p e below (s₁.setTop (mkF m 1 #[.val (.int xb), .val (.int x0), .val (.int x1), .val (.int x2), .unset, .unset, .unset] [(.int (4 : Int32))])) (s₁.setTop (entryFrame m #[(.int xb), (.int x0), (.int x1), (.int x2)] maxLocals)) := fun t kt => st0 t (by
    show Steps p.tables e below (s₁.setTop (mkF m 0 #[.val (.int xb), .val (.int x0), .val (.int x1), .val (.int x2), .unset, .unset, .unset] [])) _
    refine XS.iconst X0.here hx rfl (hb hby at_0) ?_
    show Steps p.tables e below (s₁.setTop (mkF m 1 #[.val (.int xb), .val (.int x0), .val (.int x1), .val (.int x2), .unset, .unset, .unset] [(.int (4 : Int32))])) _
    exact kt)
  obtain ⟨T2, h2, c2, X2, e2, E2, A2, ls2⟩ := newP X0 hx hZ (hw _ (List.mem_of_getElem? (i := 0) rfl)) e0 (g := (mkF m 1 #[.val (.int xb), .val (.int x0), .val (.int x1), .val (.int x2), .unset, .unset, .unset] [(.int (4 : Int32))])) rfl (hb hby at_1) rfl (by decide) (cap := 4) (by decide) (by decide) (by decide) (by decide)
  obtain ⟨b1, g2⟩ : ∃ z, z = h0.size := ⟨_, rfl⟩
  rw [← g2] at A2 ls2
  have g_b1 : n0 ≤ b1 := Nat.le_trans Z0 (Nat.le_of_eq g2.symm)
  have z3 := Nat.le_trans Z0 E2.1
  have f4 : own_Av Z h2 b1 .int 4 (fun _ => (.int (0 : Int32))) := own_Av.new A2 (by decide) (by decide)
  have st5 : own_Go p e below (T2.setTop (mkF m 3 #[.val (.int xb), .val (.int x0), .val (.int x1), .val (.int x2), .unset, .unset, .unset] [(.ref b1)])) (s₁.setTop (entryFrame m #[(.int xb), (.int x0), (.int x1), (.int x2)] maxLocals)) := fun t kt => st1 t (ls2 t kt)
  have st6 : own_Go p e below (T2.setTop (mkF m 9 #[.val (.int xb), .val (.int x0), .val (.int x1), .val (.int x2), .val (.ref b1), .unset, .unset] [(.int xb), (.int (0 : Int32)), (.ref b1)])) (s₁.setTop (entryFrame m #[(.int xb), (.int x0), (.int x1), (.int x2)] maxLocals)) := fun t kt => st5 t (by
    show Steps p.tables e below (T2.setTop (mkF m 3 #[.val (.int xb), .val (.int x0), .val (.int x1), .val (.int x2), .unset, .unset, .unset] [(.ref b1)])) _
    refine XS.astore X2.here hx rfl (hb hby at_3) rfl rfl (l' := #[.val (.int xb), .val (.int x0), .val (.int x1), .val (.int x2), .val (.ref b1), .unset, .unset]) rfl ?_
    show Steps p.tables e below (T2.setTop (mkF m 5 #[.val (.int xb), .val (.int x0), .val (.int x1), .val (.int x2), .val (.ref b1), .unset, .unset] [])) _
    refine XS.aload X2.here hx rfl (hb hby at_5) rfl rfl ?_
    show Steps p.tables e below (T2.setTop (mkF m 7 #[.val (.int xb), .val (.int x0), .val (.int x1), .val (.int x2), .val (.ref b1), .unset, .unset] [(.ref b1)])) _
    refine XS.iconst X2.here hx rfl (hb hby at_7) ?_
    show Steps p.tables e below (T2.setTop (mkF m 8 #[.val (.int xb), .val (.int x0), .val (.int x1), .val (.int x2), .val (.ref b1), .unset, .unset] [(.int (0 : Int32)), (.ref b1)])) _
    refine XS.iloadN X2.here hx rfl (hb hby at_8) rfl ?_
    show Steps p.tables e below (T2.setTop (mkF m 9 #[.val (.int xb), .val (.int x0), .val (.int x1), .val (.int x2), .val (.ref b1), .unset, .unset] [(.int xb), (.int (0 : Int32)), (.ref b1)])) _
    exact kt)
  obtain ⟨T7, h7, X7, e7, W7, B7, ls7⟩ := own_iastore X2 hx hZ e2 f4 (j := (0 : Int32)) (i := 0) (by decide) (by decide) (by decide) (g := (mkF m 9 #[.val (.int xb), .val (.int x0), .val (.int x1), .val (.int x2), .val (.ref b1), .unset, .unset] [(.int xb), (.int (0 : Int32)), (.ref b1)])) rfl rfl (hb hby at_9)
  have N7 := Fr.snoc X7 N0 g_b1
  have z8 := Nat.le_trans z3 (Keep.of_wr W7).1
  have f9 := B7
  have st10 : own_Go p e below (T7.setTop (mkF m 10 #[.val (.int xb), .val (.int x0), .val (.int x1), .val (.int x2), .val (.ref b1), .unset, .unset] [])) (s₁.setTop (entryFrame m #[(.int xb), (.int x0), (.int x1), (.int x2)] maxLocals)) := fun t kt => st6 t (ls7 t kt)
  have st11 : own_Go p e below (T7.setTop (mkF m 16 #[.val (.int xb), .val (.int x0), .val (.int x1), .val (.int x2), .val (.ref b1), .unset, .unset] [(.int (0 : Int32)), (.ref b1), (.int (1 : Int32)), (.ref b1)])) (s₁.setTop (entryFrame m #[(.int xb), (.int x0), (.int x1), (.int x2)] maxLocals)) := fun t kt => st10 t (by
    show Steps p.tables e below (T7.setTop (mkF m 10 #[.val (.int xb), .val (.int x0), .val (.int x1), .val (.int x2), .val (.ref b1), .unset, .unset] [])) _
    refine XS.aload X7.here hx rfl (hb hby at_10) rfl rfl ?_
    show Steps p.tables e below (T7.setTop (mkF m 12 #[.val (.int xb), .val (.int x0), .val (.int x1), .val (.int x2), .val (.ref b1), .unset, .unset] [(.ref b1)])) _
    refine XS.iconst X7.here hx rfl (hb hby at_12) ?_
    show Steps p.tables e below (T7.setTop (mkF m 13 #[.val (.int xb), .val (.int x0), .val (.int x1), .val (.int x2), .val (.ref b1), .unset, .unset] [(.int (1 : Int32)), (.ref b1)])) _
    refine XS.aload X7.here hx rfl (hb hby at_13) rfl rfl ?_
    show Steps p.tables e below (T7.setTop (mkF m 15 #[.val (.int xb), .val (.int x0), .val (.int x1), .val (.int x2), .val (.ref b1), .unset, .unset] [(.ref b1), (.int (1 : Int32)), (.ref b1)])) _
    refine XS.iconst X7.here hx rfl (hb hby at_15) ?_
    show Steps p.tables e below (T7.setTop (mkF m 16 #[.val (.int xb), .val (.int x0), .val (.int x1), .val (.int x2), .val (.ref b1), .unset, .unset] [(.int (0 : Int32)), (.ref b1), (.int (1 : Int32)), (.ref b1)])) _
    exact kt)
  have ls12 := own_iaload X7 hx hZ e7 f9 (j := (0 : Int32)) (i := 0) (by decide) (by decide) (by decide) (v := (.int xb)) (rfl) (g := (mkF m 16 #[.val (.int xb), .val (.int x0), .val (.int x1), .val (.int x2), .val (.ref b1), .unset, .unset] [(.int (0 : Int32)), (.ref b1), (.int (1 : Int32)), (.ref b1)])) rfl rfl (hb hby at_16)
  have st13 : own_Go p e below (T7.setTop (mkF m 17 #[.val (.int xb), .val (.int x0), .val (.int x1), .val (.int x2), .val (.ref b1), .unset, .unset] [(.int xb), (.int (1 : Int32)), (.ref b1)])) (s₁.setTop (entryFrame m #[(.int xb), (.int x0), (.int x1), (.int x2)] maxLocals)) := fun t kt => st11 t (ls12 t kt)
  have st14 : own_Go p e below (T7.setTop (mkF m 19 #[.val (.int xb), .val (.int x0), .val (.int x1), .val (.int x2), .val (.ref b1), .unset, .unset] [(.int (xb + x0)), (.int (1 : Int32)), (.ref b1)])) (s₁.setTop (entryFrame m #[(.int xb), (.int x0), (.int x1), (.int x2)] maxLocals)) := fun t kt => st13 t (by
    show Steps p.tables e below (T7.setTop (mkF m 17 #[.val (.int xb), .val (.int x0), .val (.int x1), .val (.int x2), .val (.ref b1), .unset, .unset] [(.int xb), (.int (1 : Int32)), (.ref b1)])) _
    refine XS.iloadN X7.here hx rfl (hb hby at_17) rfl ?_
    show Steps p.tables e below (T7.setTop (mkF m 18 #[.val (.int xb), .val (.int x0), .val (.int x1), .val (.int x2), .val (.ref b1), .unset, .unset] [(.int x0), (.int xb), (.int (1 : Int32)), (.ref b1)])) _
    refine XS.iadd X7.here hx rfl (hb hby at_18) rfl ?_
    show Steps p.tables e below (T7.setTop (mkF m 19 #[.val (.int xb), .val (.int x0), .val (.int x1), .val (.int x2), .val (.ref b1), .unset, .unset] [(.int (xb + x0)), (.int (1 : Int32)), (.ref b1)])) _
    exact kt)
  obtain ⟨T15, h15, X15, e15, W15, B15, ls15⟩ := own_iastore X7 hx hZ e7 f9 (j := (1 : Int32)) (i := 1) (by decide) (by decide) (by decide) (g := (mkF m 19 #[.val (.int xb), .val (.int x0), .val (.int x1), .val (.int x2), .val (.ref b1), .unset, .unset] [(.int (xb + x0)), (.int (1 : Int32)), (.ref b1)])) rfl rfl (hb hby at_19)
  have N15 := Fr.snoc X15 N7 g_b1
  have z16 := Nat.le_trans z8 (Keep.of_wr W15).1
  have f17 := B15
  have st18 : own_Go p e below (T15.setTop (mkF m 20 #[.val (.int xb), .val (.int x0), .val (.int x1), .val (.int x2), .val (.ref b1), .unset, .unset] [])) (s₁.setTop (entryFrame m #[(.int xb), (.int x0), (.int x1), (.int x2)] maxLocals)) := fun t kt => st14 t (ls15 t kt)
  have st19 : own_Go p e below (T15.setTop (mkF m 26 #[.val (.int xb), .val (.int x0), .val (.int x1), .val (.int x2), .val (.ref b1), .unset, .unset] [(.int (1 : Int32)), (.ref b1), (.int (2 : Int32)), (.ref b1)])) (s₁.setTop (entryFrame m #[(.int xb), (.int x0), (.int x1), (.int x2)] maxLocals)) := fun t kt => st18 t (by
    show Steps p.tables e below (T15.setTop (mkF m 20 #[.val (.int xb), .val (.int x0), .val (.int x1), .val (.int x2), .val (.ref b1), .unset, .unset] [])) _
    refine XS.aload X15.here hx rfl (hb hby at_20) rfl rfl ?_
    show Steps p.tables e below (T15.setTop (mkF m 22 #[.val (.int xb), .val (.int x0), .val (.int x1), .val (.int x2), .val (.ref b1), .unset, .unset] [(.ref b1)])) _
    refine XS.iconst X15.here hx rfl (hb hby at_22) ?_
    show Steps p.tables e below (T15.setTop (mkF m 23 #[.val (.int xb), .val (.int x0), .val (.int x1), .val (.int x2), .val (.ref b1), .unset, .unset] [(.int (2 : Int32)), (.ref b1)])) _
    refine XS.aload X15.here hx rfl (hb hby at_23) rfl rfl ?_
    show Steps p.tables e below (T15.setTop (mkF m 25 #[.val (.int xb), .val (.int x0), .val (.int x1), .val (.int x2), .val (.ref b1), .unset, .unset] [(.ref b1), (.int (2 : Int32)), (.ref b1)])) _
    refine XS.iconst X15.here hx rfl (hb hby at_25) ?_
    show Steps p.tables e below (T15.setTop (mkF m 26 #[.val (.int xb), .val (.int x0), .val (.int x1), .val (.int x2), .val (.ref b1), .unset, .unset] [(.int (1 : Int32)), (.ref b1), (.int (2 : Int32)), (.ref b1)])) _
    exact kt)
  have ls20 := own_iaload X15 hx hZ e15 f17 (j := (1 : Int32)) (i := 1) (by decide) (by decide) (by decide) (v := (.int (xb + x0))) (rfl) (g := (mkF m 26 #[.val (.int xb), .val (.int x0), .val (.int x1), .val (.int x2), .val (.ref b1), .unset, .unset] [(.int (1 : Int32)), (.ref b1), (.int (2 : Int32)), (.ref b1)])) rfl rfl (hb hby at_26)
  have st21 : own_Go p e below (T15.setTop (mkF m 27 #[.val (.int xb), .val (.int x0), .val (.int x1), .val (.int x2), .val (.ref b1), .unset, .unset] [(.int (xb + x0)), (.int (2 : Int32)), (.ref b1)])) (s₁.setTop (entryFrame m #[(.int xb), (.int x0), (.int x1), (.int x2)] maxLocals)) := fun t kt => st19 t (ls20 t kt)
  have st22 : own_Go p e below (T15.setTop (mkF m 29 #[.val (.int xb), .val (.int x0), .val (.int x1), .val (.int x2), .val (.ref b1), .unset, .unset] [(.int ((xb + x0) + x1)), (.int (2 : Int32)), (.ref b1)])) (s₁.setTop (entryFrame m #[(.int xb), (.int x0), (.int x1), (.int x2)] maxLocals)) := fun t kt => st21 t (by
    show Steps p.tables e below (T15.setTop (mkF m 27 #[.val (.int xb), .val (.int x0), .val (.int x1), .val (.int x2), .val (.ref b1), .unset, .unset] [(.int (xb + x0)), (.int (2 : Int32)), (.ref b1)])) _
    refine XS.iloadN X15.here hx rfl (hb hby at_27) rfl ?_
    show Steps p.tables e below (T15.setTop (mkF m 28 #[.val (.int xb), .val (.int x0), .val (.int x1), .val (.int x2), .val (.ref b1), .unset, .unset] [(.int x1), (.int (xb + x0)), (.int (2 : Int32)), (.ref b1)])) _
    refine XS.iadd X15.here hx rfl (hb hby at_28) rfl ?_
    show Steps p.tables e below (T15.setTop (mkF m 29 #[.val (.int xb), .val (.int x0), .val (.int x1), .val (.int x2), .val (.ref b1), .unset, .unset] [(.int ((xb + x0) + x1)), (.int (2 : Int32)), (.ref b1)])) _
    exact kt)
  obtain ⟨T23, h23, X23, e23, W23, B23, ls23⟩ := own_iastore X15 hx hZ e15 f17 (j := (2 : Int32)) (i := 2) (by decide) (by decide) (by decide) (g := (mkF m 29 #[.val (.int xb), .val (.int x0), .val (.int x1), .val (.int x2), .val (.ref b1), .unset, .unset] [(.int ((xb + x0) + x1)), (.int (2 : Int32)), (.ref b1)])) rfl rfl (hb hby at_29)
  have N23 := Fr.snoc X23 N15 g_b1
  have z24 := Nat.le_trans z16 (Keep.of_wr W23).1
  have f25 := B23
  have st26 : own_Go p e below (T23.setTop (mkF m 30 #[.val (.int xb), .val (.int x0), .val (.int x1), .val (.int x2), .val (.ref b1), .unset, .unset] [])) (s₁.setTop (entryFrame m #[(.int xb), (.int x0), (.int x1), (.int x2)] maxLocals)) := fun t kt => st22 t (ls23 t kt)
  have st27 : own_Go p e below (T23.setTop (mkF m 36 #[.val (.int xb), .val (.int x0), .val (.int x1), .val (.int x2), .val (.ref b1), .unset, .unset] [(.int (2 : Int32)), (.ref b1), (.int (3 : Int32)), (.ref b1)])) (s₁.setTop (entryFrame m #[(.int xb), (.int x0), (.int x1), (.int x2)] maxLocals)) := fun t kt => st26 t (by
    show Steps p.tables e below (T23.setTop (mkF m 30 #[.val (.int xb), .val (.int x0), .val (.int x1), .val (.int x2), .val (.ref b1), .unset, .unset] [])) _
    refine XS.aload X23.here hx rfl (hb hby at_30) rfl rfl ?_
    show Steps p.tables e below (T23.setTop (mkF m 32 #[.val (.int xb), .val (.int x0), .val (.int x1), .val (.int x2), .val (.ref b1), .unset, .unset] [(.ref b1)])) _
    refine XS.iconst X23.here hx rfl (hb hby at_32) ?_
    show Steps p.tables e below (T23.setTop (mkF m 33 #[.val (.int xb), .val (.int x0), .val (.int x1), .val (.int x2), .val (.ref b1), .unset, .unset] [(.int (3 : Int32)), (.ref b1)])) _
    refine XS.aload X23.here hx rfl (hb hby at_33) rfl rfl ?_
    show Steps p.tables e below (T23.setTop (mkF m 35 #[.val (.int xb), .val (.int x0), .val (.int x1), .val (.int x2), .val (.ref b1), .unset, .unset] [(.ref b1), (.int (3 : Int32)), (.ref b1)])) _
    refine XS.iconst X23.here hx rfl (hb hby at_35) ?_
    show Steps p.tables e below (T23.setTop (mkF m 36 #[.val (.int xb), .val (.int x0), .val (.int x1), .val (.int x2), .val (.ref b1), .unset, .unset] [(.int (2 : Int32)), (.ref b1), (.int (3 : Int32)), (.ref b1)])) _
    exact kt)
  have ls28 := own_iaload X23 hx hZ e23 f25 (j := (2 : Int32)) (i := 2) (by decide) (by decide) (by decide) (v := (.int ((xb + x0) + x1))) (rfl) (g := (mkF m 36 #[.val (.int xb), .val (.int x0), .val (.int x1), .val (.int x2), .val (.ref b1), .unset, .unset] [(.int (2 : Int32)), (.ref b1), (.int (3 : Int32)), (.ref b1)])) rfl rfl (hb hby at_36)
  have st29 : own_Go p e below (T23.setTop (mkF m 37 #[.val (.int xb), .val (.int x0), .val (.int x1), .val (.int x2), .val (.ref b1), .unset, .unset] [(.int ((xb + x0) + x1)), (.int (3 : Int32)), (.ref b1)])) (s₁.setTop (entryFrame m #[(.int xb), (.int x0), (.int x1), (.int x2)] maxLocals)) := fun t kt => st27 t (ls28 t kt)
  have st30 : own_Go p e below (T23.setTop (mkF m 39 #[.val (.int xb), .val (.int x0), .val (.int x1), .val (.int x2), .val (.ref b1), .unset, .unset] [(.int (((xb + x0) + x1) + x2)), (.int (3 : Int32)), (.ref b1)])) (s₁.setTop (entryFrame m #[(.int xb), (.int x0), (.int x1), (.int x2)] maxLocals)) := fun t kt => st29 t (by
    show Steps p.tables e below (T23.setTop (mkF m 37 #[.val (.int xb), .val (.int x0), .val (.int x1), .val (.int x2), .val (.ref b1), .unset, .unset] [(.int ((xb + x0) + x1)), (.int (3 : Int32)), (.ref b1)])) _
    refine XS.iloadN X23.here hx rfl (hb hby at_37) rfl ?_
    show Steps p.tables e below (T23.setTop (mkF m 38 #[.val (.int xb), .val (.int x0), .val (.int x1), .val (.int x2), .val (.ref b1), .unset, .unset] [(.int x2), (.int ((xb + x0) + x1)), (.int (3 : Int32)), (.ref b1)])) _
    refine XS.iadd X23.here hx rfl (hb hby at_38) rfl ?_
    show Steps p.tables e below (T23.setTop (mkF m 39 #[.val (.int xb), .val (.int x0), .val (.int x1), .val (.int x2), .val (.ref b1), .unset, .unset] [(.int (((xb + x0) + x1) + x2)), (.int (3 : Int32)), (.ref b1)])) _
    exact kt)
  obtain ⟨T31, h31, X31, e31, W31, B31, ls31⟩ := own_iastore X23 hx hZ e23 f25 (j := (3 : Int32)) (i := 3) (by decide) (by decide) (by decide) (g := (mkF m 39 #[.val (.int xb), .val (.int x0), .val (.int x1), .val (.int x2), .val (.ref b1), .unset, .unset] [(.int (((xb + x0) + x1) + x2)), (.int (3 : Int32)), (.ref b1)])) rfl rfl (hb hby at_39)
  have N31 := Fr.snoc X31 N23 g_b1
  have z32 := Nat.le_trans z24 (Keep.of_wr W31).1
  have f33 := B31
  have st34 : own_Go p e below (T31.setTop (mkF m 40 #[.val (.int xb), .val (.int x0), .val (.int x1), .val (.int x2), .val (.ref b1), .unset, .unset] [])) (s₁.setTop (entryFrame m #[(.int xb), (.int x0), (.int x1), (.int x2)] maxLocals)) := fun t kt => st30 t (ls31 t kt)
  have st35 : own_Go p e below (T31.setTop (mkF m 41 #[.val (.int xb), .val (.int x0), .val (.int x1), .val (.int x2), .val (.ref b1), .unset, .unset] [(.int (3 : Int32))])) (s₁.setTop (entryFrame m #[(.int xb), (.int x0), (.int x1), (.int x2)] maxLocals)) := fun t kt => st34 t (by
    show Steps p.tables e below (T31.setTop (mkF m 40 #[.val (.int xb), .val (.int x0), .val (.int x1), .val (.int x2), .val (.ref b1), .unset, .unset] [])) _
    refine XS.iconst X31.here hx rfl (hb hby at_40) ?_
    show Steps p.tables e below (T31.setTop (mkF m 41 #[.val (.int xb), .val (.int x0), .val (.int x1), .val (.int x2), .val (.ref b1), .unset, .unset] [(.int (3 : Int32))])) _
    exact kt)
  obtain ⟨T36, h36, c36, X36, e36, E36, A36, ls36⟩ := newP X31 hx hZ (hw _ (List.mem_of_getElem? (i := 0) rfl)) e31 (g := (mkF m 41 #[.val (.int xb), .val (.int x0), .val (.int x1), .val (.int x2), .val (.ref b1), .unset, .unset] [(.int (3 : Int32))])) rfl (hb hby at_41) rfl (by decide) (cap := 3) (by decide) (by decide) (by decide) (by decide)
  obtain ⟨b2, g36⟩ : ∃ z, z = h31.size := ⟨_, rfl⟩
  rw [← g36] at A36 ls36
  have ne_b1_b2 : b1 ≠ b2 := Nat.ne_of_lt (Nat.lt_of_lt_of_le f33.lt (Nat.le_of_eq g36.symm))
  have g_b2 : n0 ≤ b2 := Nat.le_trans z32 (Nat.le_of_eq g36.symm)
  have f37 := f33.ext E36
  have z38 := Nat.le_trans z32 E36.1
  have f39 : own_Av Z h36 b2 .int 3 (fun _ => (.int (0 : Int32))) := own_Av.new A36 (by decide) (by decide)
  have st40 : own_Go p e below (T36.setTop (mkF m 43 #[.val (.int xb), .val (.int x0), .val (.int x1), .val (.int x2), .val (.ref b1), .unset, .unset] [(.ref b2)])) (s₁.setTop (entryFrame m #[(.int xb), (.int x0), (.int x1), (.int x2)] maxLocals)) := fun t kt => st35 t (ls36 t kt)
  have st41 : own_Go p e below (T36.setTop (mkF m 49 #[.val (.int xb), .val (.int x0), .val (.int x1), .val (.int x2), .val (.ref b1), .val (.ref b2), .unset] [(.int (0 : Int32)), (.int (0 : Int32)), (.ref b2)])) (s₁.setTop (entryFrame m #[(.int xb), (.int x0), (.int x1), (.int x2)] maxLocals)) := fun t kt => st40 t (by
    show Steps p.tables e below (T36.setTop (mkF m 43 #[.val (.int xb), .val (.int x0), .val (.int x1), .val (.int x2), .val (.ref b1), .unset, .unset] [(.ref b2)])) _
    refine XS.astore X36.here hx rfl (hb hby at_43) rfl rfl (l' := #[.val (.int xb), .val (.int x0), .val (.int x1), .val (.int x2), .val (.ref b1), .val (.ref b2), .unset]) rfl ?_
    show Steps p.tables e below (T36.setTop (mkF m 45 #[.val (.int xb), .val (.int x0), .val (.int x1), .val (.int x2), .val (.ref b1), .val (.ref b2), .unset] [])) _
    refine XS.aload X36.here hx rfl (hb hby at_45) rfl rfl ?_
    show Steps p.tables e below (T36.setTop (mkF m 47 #[.val (.int xb), .val (.int x0), .val (.int x1), .val (.int x2), .val (.ref b1), .val (.ref b2), .unset] [(.ref b2)])) _
    refine XS.iconst X36.here hx rfl (hb hby at_47) ?_
    show Steps p.tables e below (T36.setTop (mkF m 48 #[.val (.int xb), .val (.int x0), .val (.int x1), .val (.int x2), .val (.ref b1), .val (.ref b2), .unset] [(.int (0 : Int32)), (.ref b2)])) _
    refine XS.iconst X36.here hx rfl (hb hby at_48) ?_
    show Steps p.tables e below (T36.setTop (mkF m 49 #[.val (.int xb), .val (.int x0), .val (.int x1), .val (.int x2), .val (.ref b1), .val (.ref b2), .unset] [(.int (0 : Int32)), (.int (0 : Int32)), (.ref b2)])) _
    exact kt)
  obtain ⟨T42, h42, X42, e42, W42, B42, ls42⟩ := own_iastore X36 hx hZ e36 f39 (j := (0 : Int32)) (i := 0) (by decide) (by decide) (by decide) (g := (mkF m 49 #[.val (.int xb), .val (.int x0), .val (.int x1), .val (.int x2), .val (.ref b1), .val (.ref b2), .unset] [(.int (0 : Int32)), (.int (0 : Int32)), (.ref b2)])) rfl rfl (hb hby at_49)
  have N42 := Fr.snoc X42 N31 g_b2
  have f43 := f37.other W42 ne_b1_b2
  have z44 := Nat.le_trans z38 (Keep.of_wr W42).1
  have f45 := B42
  have st46 : own_Go p e below (T42.setTop (mkF m 50 #[.val (.int xb), .val (.int x0), .val (.int x1), .val (.int x2), .val (.ref b1), .val (.ref b2), .unset] [])) (s₁.setTop (entryFrame m #[(.int xb), (.int x0), (.int x1), (.int x2)] maxLocals)) := fun t kt => st41 t (ls42 t kt)
  have st47 : own_Go p e below (T42.setTop (mkF m 54 #[.val (.int xb), .val (.int x0), .val (.int x1), .val (.int x2), .val (.ref b1), .val (.ref b2), .unset] [(.int (1 : Int32)), (.int (1 : Int32)), (.ref b2)])) (s₁.setTop (entryFrame m #[(.int xb), (.int x0), (.int x1), (.int x2)] maxLocals)) := fun t kt => st46 t (by
    show Steps p.tables e below (T42.setTop (mkF m 50 #[.val (.int xb), .val (.int x0), .val (.int x1), .val (.int x2), .val (.ref b1), .val (.ref b2), .unset] [])) _
    refine XS.aload X42.here hx rfl (hb hby at_50) rfl rfl ?_
    show Steps p.tables e below (T42.setTop (mkF m 52 #[.val (.int xb), .val (.int x0), .val (.int x1), .val (.int x2), .val (.ref b1), .val (.ref b2), .unset] [(.ref b2)])) _
    refine XS.iconst X42.here hx rfl (hb hby at_52) ?_
    show Steps p.tables e below (T42.setTop (mkF m 53 #[.val (.int xb), .val (.int x0), .val (.int x1), .val (.int x2), .val (.ref b1), .val (.ref b2), .unset] [(.int (1 : Int32)), (.ref b2)])) _
    refine XS.iconst X42.here hx rfl (hb hby at_53) ?_
    show Steps p.tables e below (T42.setTop (mkF m 54 #[.val (.int xb), .val (.int x0), .val (.int x1), .val (.int x2), .val (.ref b1), .val (.ref b2), .unset] [(.int (1 : Int32)), (.int (1 : Int32)), (.ref b2)])) _
    exact kt)
  obtain ⟨T48, h48, X48, e48, W48, B48, ls48⟩ := own_iastore X42 hx hZ e42 f45 (j := (1 : Int32)) (i := 1) (by decide) (by decide) (by decide) (g := (mkF m 54 #[.val (.int xb), .val (.int x0), .val (.int x1), .val (.int x2), .val (.ref b1), .val (.ref b2), .unset] [(.int (1 : Int32)), (.int (1 : Int32)), (.ref b2)])) rfl rfl (hb hby at_54)
  have N48 := Fr.snoc X48 N42 g_b2
  have f49 := f43.other W48 ne_b1_b2
  have z50 := Nat.le_trans z44 (Keep.of_wr W48).1
  have f51 := B48
  have st52 : own_Go p e below (T48.setTop (mkF m 55 #[.val (.int xb), .val (.int x0), .val (.int x1), .val (.int x2), .val (.ref b1), .val (.ref b2), .unset] [])) (s₁.setTop (entryFrame m #[(.int xb), (.int x0), (.int x1), (.int x2)] maxLocals)) := fun t kt => st47 t (ls48 t kt)
  have st53 : own_Go p e below (T48.setTop (mkF m 59 #[.val (.int xb), .val (.int x0), .val (.int x1), .val (.int x2), .val (.ref b1), .val (.ref b2), .unset] [(.int (2 : Int32)), (.int (2 : Int32)), (.ref b2)])) (s₁.setTop (entryFrame m #[(.int xb), (.int x0), (.int x1), (.int x2)] maxLocals)) := fun t kt => st52 t (by
    show Steps p.tables e below (T48.setTop (mkF m 55 #[.val (.int xb), .val (.int x0), .val (.int x1), .val (.int x2), .val (.ref b1), .val (.ref b2), .unset] [])) _
    refine XS.aload X48.here hx rfl (hb hby at_55) rfl rfl ?_
    show Steps p.tables e below (T48.setTop (mkF m 57 #[.val (.int xb), .val (.int x0), .val (.int x1), .val (.int x2), .val (.ref b1), .val (.ref b2), .unset] [(.ref b2)])) _
    refine XS.iconst X48.here hx rfl (hb hby at_57) ?_
    show Steps p.tables e below (T48.setTop (mkF m 58 #[.val (.int xb), .val (.int x0), .val (.int x1), .val (.int x2), .val (.ref b1), .val (.ref b2), .unset] [(.int (2 : Int32)), (.ref b2)])) _
    refine XS.iconst X48.here hx rfl (hb hby at_58) ?_
    show Steps p.tables e below (T48.setTop (mkF m 59 #[.val (.int xb), .val (.int x0), .val (.int x1), .val (.int x2), .val (.ref b1), .val (.ref b2), .unset] [(.int (2 : Int32)), (.int (2 : Int32)), (.ref b2)])) _
    exact kt)
  obtain ⟨T54, h54, X54, e54, W54, B54, ls54⟩ := own_iastore X48 hx hZ e48 f51 (j := (2 : Int32)) (i := 2) (by decide) (by decide) (by decide) (g := (mkF m 59 #[.val (.int xb), .val (.int x0), .val (.int x1), .val (.int x2), .val (.ref b1), .val (.ref b2), .unset] [(.int (2 : Int32)), (.int (2 : Int32)), (.ref b2)])) rfl rfl (hb hby at_59)
  have N54 := Fr.snoc X54 N48 g_b2
  have f55 := f49.other W54 ne_b1_b2
  have z56 := Nat.le_trans z50 (Keep.of_wr W54).1
  have f57 := B54
  have st58 : own_Go p e below (T54.setTop (mkF m 60 #[.val (.int xb), .val (.int x0), .val (.int x1), .val (.int x2), .val (.ref b1), .val (.ref b2), .unset] [])) (s₁.setTop (entryFrame m #[(.int xb), (.int x0), (.int x1), (.int x2)] maxLocals)) := fun t kt => st53 t (ls54 t kt)
  obtain ⟨T59, h59, X59, e59, E59, A59, D59, -, ls59⟩ := newO X54 hx hZ hown (hw _ (List.mem_of_getElem? (i := 1) rfl)) (hw _ (List.mem_of_getElem? (i := 2) rfl)) (hw _ (List.mem_of_getElem? (i := 3) rfl)) e54 (g := (mkF m 60 #[.val (.int xb), .val (.int x0), .val (.int x1), .val (.int x2), .val (.ref b1), .val (.ref b2), .unset] [])) rfl (hb hby at_60) (by decide) (by decide)
  obtain ⟨b3, g59⟩ : ∃ z, z = h54.size := ⟨_, rfl⟩
  rw [← g59] at A59 D59 ls59
  have ne_b1_b3 : b1 ≠ b3 := Nat.ne_of_lt (Nat.lt_of_lt_of_le f55.lt (Nat.le_of_eq g59.symm))
  have ne_b2_b3 : b2 ≠ b3 := Nat.ne_of_lt (Nat.lt_of_lt_of_le f57.lt (Nat.le_of_eq g59.symm))
  have g_b3 : n0 ≤ b3 := Nat.le_trans z56 (Nat.le_of_eq g59.symm)
  have f60 := f55.ext E59
  have f61 := f57.ext E59
  have z62 := Nat.le_trans z56 E59.1
  have f63 : Fld Z h59 b3 "com/example/ranked_text_search/rankedtextsearch/Index$Postings" "documents" "[I" .null := D59 (Or.inr (hw _ (List.mem_of_getElem? (i := 16) rfl))) (ty := (.array .int)) (by decide)
  have f64 : Fld Z h59 b3 "com/example/ranked_text_search/rankedtextsearch/Index$Postings" "starts" "[I" .null := D59 (Or.inr (hw _ (List.mem_of_getElem? (i := 18) rfl))) (ty := (.array .int)) (by decide)
  have f65 : Fld Z h59 b3 "com/example/ranked_text_search/rankedtextsearch/Index$Postings" "positions" "[I" .null := D59 (Or.inr (hw _ (List.mem_of_getElem? (i := 20) rfl))) (ty := (.array .int)) (by decide)
  have st66 : own_Go p e below (T59.setTop (mkF m 63 #[.val (.int xb), .val (.int x0), .val (.int x1), .val (.int x2), .val (.ref b1), .val (.ref b2), .unset] [(.ref b3)])) (s₁.setTop (entryFrame m #[(.int xb), (.int x0), (.int x1), (.int x2)] maxLocals)) := fun t kt => st58 t (ls59 t kt)
  have st67 : own_Go p e below (T59.setTop (mkF m 69 #[.val (.int xb), .val (.int x0), .val (.int x1), .val (.int x2), .val (.ref b1), .val (.ref b2), .unset] [(.int (0 : Int32)), (.ref b1), (.ref b2), (.ref b3), (.ref b3)])) (s₁.setTop (entryFrame m #[(.int xb), (.int x0), (.int x1), (.int x2)] maxLocals)) := fun t kt => st66 t (by
    show Steps p.tables e below (T59.setTop (mkF m 63 #[.val (.int xb), .val (.int x0), .val (.int x1), .val (.int x2), .val (.ref b1), .val (.ref b2), .unset] [(.ref b3)])) _
    refine XS.dup X59.here hx rfl (hb hby at_63) rfl rfl ?_
    show Steps p.tables e below (T59.setTop (mkF m 64 #[.val (.int xb), .val (.int x0), .val (.int x1), .val (.int x2), .val (.ref b1), .val (.ref b2), .unset] [(.ref b3), (.ref b3)])) _
    refine XS.aload X59.here hx rfl (hb hby at_64) rfl rfl ?_
    show Steps p.tables e below (T59.setTop (mkF m 66 #[.val (.int xb), .val (.int x0), .val (.int x1), .val (.int x2), .val (.ref b1), .val (.ref b2), .unset] [(.ref b2), (.ref b3), (.ref b3)])) _
    refine XS.aload X59.here hx rfl (hb hby at_66) rfl rfl ?_
    show Steps p.tables e below (T59.setTop (mkF m 68 #[.val (.int xb), .val (.int x0), .val (.int x1), .val (.int x2), .val (.ref b1), .val (.ref b2), .unset] [(.ref b1), (.ref b2), (.ref b3), (.ref b3)])) _
    refine XS.iconst X59.here hx rfl (hb hby at_68) ?_
    show Steps p.tables e below (T59.setTop (mkF m 69 #[.val (.int xb), .val (.int x0), .val (.int x1), .val (.int x2), .val (.ref b1), .val (.ref b2), .unset] [(.int (0 : Int32)), (.ref b1), (.ref b2), (.ref b3), (.ref b3)])) _
    exact kt)
  obtain ⟨T68, h68, c68, X68, e68, E68, A68, ls68⟩ := newP X59 hx hZ (hw _ (List.mem_of_getElem? (i := 0) rfl)) e59 (g := (mkF m 69 #[.val (.int xb), .val (.int x0), .val (.int x1), .val (.int x2), .val (.ref b1), .val (.ref b2), .unset] [(.int (0 : Int32)), (.ref b1), (.ref b2), (.ref b3), (.ref b3)])) rfl (hb hby at_69) rfl (by decide) (cap := 0) (by decide) (by decide) (by decide) (by decide)
  obtain ⟨b4, g68⟩ : ∃ z, z = h59.size := ⟨_, rfl⟩
  rw [← g68] at A68 ls68
  have ne_b1_b4 : b1 ≠ b4 := Nat.ne_of_lt (Nat.lt_of_lt_of_le f60.lt (Nat.le_of_eq g68.symm))
  have ne_b2_b4 : b2 ≠ b4 := Nat.ne_of_lt (Nat.lt_of_lt_of_le f61.lt (Nat.le_of_eq g68.symm))
  have ne_b3_b4 : b3 ≠ b4 := Nat.ne_of_lt (Nat.lt_of_lt_of_le A59.lt (Nat.le_of_eq g68.symm))
  have g_b4 : n0 ≤ b4 := Nat.le_trans z62 (Nat.le_of_eq g68.symm)
  have f69 := f60.ext E68
  have f70 := f61.ext E68
  have f71 := A59.ext E68
  have f72 := f63.ext E68
  have f73 := f64.ext E68
  have f74 := f65.ext E68
  have z75 := Nat.le_trans z62 E68.1
  have f76 : own_Av Z h68 b4 .int 0 (fun _ => (.int (0 : Int32))) := own_Av.new A68 (by decide) (by decide)
  have st77 : own_Go p e below (T68.setTop (mkF m 71 #[.val (.int xb), .val (.int x0), .val (.int x1), .val (.int x2), .val (.ref b1), .val (.ref b2), .unset] [(.ref b4), (.ref b1), (.ref b2), (.ref b3), (.ref b3)])) (s₁.setTop (entryFrame m #[(.int xb), (.int x0), (.int x1), (.int x2)] maxLocals)) := fun t kt => st67 t (ls68 t kt)
  obtain ⟨_, _, ⟨T78, L78, k78, n78⟩, -, X78, ⟨Lc78, hQ78, l78, y78, z78⟩, ls78⟩ := X68.specialBack hx (y := (⟨"com/example/ranked_text_search/rankedtextsearch/Index$Postings", "<init>", "([I[I[I)V"⟩ : MethodName)) rfl hown (mvT hZ (hw _ (List.mem_of_getElem? (i := 4) rfl))) (mvT hZ (hw _ (List.mem_of_getElem? (i := 5) rfl))) (mvT hZ (hw _ (List.mem_of_getElem? (i := 6) rfl))) (by decide) (backOf (W := 1) (rm_init l Z a0 hw [] b3 b2 b1 b4 h68 n0 z75 f72 f73 f74 f71 g_b3) hZ (hw _ (List.mem_of_getElem? (i := 6) rfl)) (hw _ (List.mem_of_getElem? (i := 3) rfl)) (by decide) (by decide)) (g := (mkF m 71 #[.val (.int xb), .val (.int x0), .val (.int x1), .val (.int x2), .val (.ref b1), .val (.ref b2), .unset] [(.ref b4), (.ref b1), (.ref b2), (.ref b3), (.ref b3)])) rfl (by rw [hml]; rfl) (Steps.refl _) (a := b3) (argsL := [(.ref b2), (.ref b1), (.ref b4)]) (rest := [(.ref b3)]) (lenOf own_pd1 rfl) rfl (by show 2 * 0 + _ ≤ _; exact Nat.le_of_eq rfl) (hb hby at_71) (fun _ _ => ⟨rfl, e68, (by decide : 4 + 0 ≤ _), (by decide : 10 + 0 ≤ _)⟩)
  dsimp only [Pt.U, Pt.locs, Pt.cells, Pt.slots] at X78 l78 y78 z78 ls78 hQ78
  subst l78 y78 z78
  obtain ⟨rfl, Nq78, Kq78, Fq78_documents, Fq78_starts, Fq78_positions⟩ := hQ78
  have N78 := Fr.app N54 Nq78
  have f79 := f69.keep Kq78 (ninS ne_b1_b3 nin0)
  have f80 := f70.keep Kq78 (ninS ne_b2_b3 nin0)
  have f81 := f71.keep Kq78
  have f85 := f76.keep Kq78 (ninS (Ne.symm ne_b3_b4) nin0)
  have z86 := Nat.le_trans z75 Kq78.1
  have st87 : own_Go p e below (T78.setTop (mkF m 74 #[.val (.int xb), .val (.int x0), .val (.int x1), .val (.int x2), .val (.ref b1), .val (.ref b2), .unset] [(.ref b3)])) (s₁.setTop (entryFrame m #[(.int xb), (.int x0), (.int x1), (.int x2)] maxLocals)) := fun t kt => st77 t (ls78.trans kt)
  have st88 : own_Go p e below (T78.setTop (mkF m 79 #[.val (.int xb), .val (.int x0), .val (.int x1), .val (.int x2), .val (.ref b1), .val (.ref b2), .val (.ref b3)] [(.int (0 : Int32)), (.ref b3)])) (s₁.setTop (entryFrame m #[(.int xb), (.int x0), (.int x1), (.int x2)] maxLocals)) := fun t kt => st87 t (by
    show Steps p.tables e below (T78.setTop (mkF m 74 #[.val (.int xb), .val (.int x0), .val (.int x1), .val (.int x2), .val (.ref b1), .val (.ref b2), .unset] [(.ref b3)])) _
    refine XS.astore X78.here hx rfl (hb hby at_74) rfl rfl (l' := #[.val (.int xb), .val (.int x0), .val (.int x1), .val (.int x2), .val (.ref b1), .val (.ref b2), .val (.ref b3)]) rfl ?_
    show Steps p.tables e below (T78.setTop (mkF m 76 #[.val (.int xb), .val (.int x0), .val (.int x1), .val (.int x2), .val (.ref b1), .val (.ref b2), .val (.ref b3)] [])) _
    refine XS.aload X78.here hx rfl (hb hby at_76) rfl rfl ?_
    show Steps p.tables e below (T78.setTop (mkF m 78 #[.val (.int xb), .val (.int x0), .val (.int x1), .val (.int x2), .val (.ref b1), .val (.ref b2), .val (.ref b3)] [(.ref b3)])) _
    refine XS.iconst X78.here hx rfl (hb hby at_78) ?_
    show Steps p.tables e below (T78.setTop (mkF m 79 #[.val (.int xb), .val (.int x0), .val (.int x1), .val (.int x2), .val (.ref b1), .val (.ref b2), .val (.ref b3)] [(.int (0 : Int32)), (.ref b3)])) _
    exact kt)
  obtain ⟨cq89, kq89, q89a, q89b, q89c⟩ := isOf hZ rfl f81
  obtain ⟨_, _, ⟨T89, L89, k89, n89⟩, -, X89, ⟨Lc89, hQ89, l89, y89, z89⟩, ls89⟩ := X78.virtualBack hx (y := (⟨"com/example/ranked_text_search/rankedtextsearch/Index$Postings", "frequency", "(I)I"⟩ : MethodName)) (z := (⟨"com/example/ranked_text_search/rankedtextsearch/Index$Postings", "frequency", "(I)I"⟩ : MethodName)) hown (mvT hZ (hw _ (List.mem_of_getElem? (i := 21) rfl))) (mvT hZ (hw _ (List.mem_of_getElem? (i := 22) rfl))) (notFace_of_selects (args := #[]) (mvT hZ (hw _ (List.mem_of_getElem? (i := 24) rfl)))) (mvT hZ (hw _ (List.mem_of_getElem? (i := 24) rfl))) (mvT hZ (hw _ (List.mem_of_getElem? (i := 23) rfl))) (by decide) (backOf (W := 0) (rm_freq l Z a0 hw [] b3 ((0 : Int32)) b1 4 0 ((fun q => if q = 3 then (.int (((xb + x0) + x1) + x2)) else (fun q => if q = 2 then (.int ((xb + x0) + x1)) else (fun q => if q = 1 then (.int (xb + x0)) else (fun q => if q = 0 then (.int xb) else (fun _ => (.int (0 : Int32))) q) q) q) q)) xb ((xb + x0)) T78.heap n0 z86 Fq78_starts f79 (by decide) (by decide) (by decide) (by decide) (by decide) rfl rfl) hZ (hw _ (List.mem_of_getElem? (i := 25) rfl)) (hw _ (List.mem_of_getElem? (i := 3) rfl)) (by decide) (by decide)) q89a q89c (g := (mkF m 79 #[.val (.int xb), .val (.int x0), .val (.int x1), .val (.int x2), .val (.ref b1), .val (.ref b2), .val (.ref b3)] [(.int (0 : Int32)), (.ref b3)])) rfl (by rw [hml]; rfl) (Steps.refl _) (argsL := [(.int (0 : Int32))]) (rest := []) (lenOf own_pd2 rfl) rfl (by show 2 * 0 + _ ≤ _; exact Nat.le_of_eq rfl) (hb hby at_79) (fun _ _ => ⟨rfl, rfl, (by decide : 4 + 0 ≤ _), (by decide : 10 + 0 ≤ _)⟩)
  dsimp only [Pt.U, Pt.locs, Pt.cells, Pt.slots] at X89 l89 y89 z89 ls89 hQ89
  subst l89 y89 z89
  obtain ⟨rfl, Nq89, eq89⟩ := hQ89
  have N89 := Fr.app N78 Nq89
  have st90 : own_Go p e below (T89.setTop (mkF m 82 #[.val (.int xb), .val (.int x0), .val (.int x1), .val (.int x2), .val (.ref b1), .val (.ref b2), .val (.ref b3)] [(.int ((xb + x0) - xb))])) (s₁.setTop (entryFrame m #[(.int xb), (.int x0), (.int x1), (.int x2)] maxLocals)) := fun t kt => st88 t (ls89.trans kt)
  have hc91 : ((xb + x0) - xb) = x0 := by grind
  have st92 : own_Go p e below (T89.setTop (mkF m 89 #[.val (.int xb), .val (.int x0), .val (.int x1), .val (.int x2), .val (.ref b1), .val (.ref b2), .val (.ref b3)] [(.int (1 : Int32)), (.ref b3)])) (s₁.setTop (entryFrame m #[(.int xb), (.int x0), (.int x1), (.int x2)] maxLocals)) := fun t kt => st90 t (by
    show Steps p.tables e below (T89.setTop (mkF m 82 #[.val (.int xb), .val (.int x0), .val (.int x1), .val (.int x2), .val (.ref b1), .val (.ref b2), .val (.ref b3)] [(.int ((xb + x0) - xb))])) _
    refine XS.iloadN X89.here hx rfl (hb hby at_82) rfl ?_
    show Steps p.tables e below (T89.setTop (mkF m 83 #[.val (.int xb), .val (.int x0), .val (.int x1), .val (.int x2), .val (.ref b1), .val (.ref b2), .val (.ref b3)] [(.int x0), (.int ((xb + x0) - xb))])) _
    refine XS.icmpNo X89.here hx rfl (hb hby at_83) rfl (teq hc91).2 ?_
    show Steps p.tables e below (T89.setTop (mkF m 86 #[.val (.int xb), .val (.int x0), .val (.int x1), .val (.int x2), .val (.ref b1), .val (.ref b2), .val (.ref b3)] [])) _
    refine XS.aload X89.here hx rfl (hb hby at_86) rfl rfl ?_
    show Steps p.tables e below (T89.setTop (mkF m 88 #[.val (.int xb), .val (.int x0), .val (.int x1), .val (.int x2), .val (.ref b1), .val (.ref b2), .val (.ref b3)] [(.ref b3)])) _
    refine XS.iconst X89.here hx rfl (hb hby at_88) ?_
    show Steps p.tables e below (T89.setTop (mkF m 89 #[.val (.int xb), .val (.int x0), .val (.int x1), .val (.int x2), .val (.ref b1), .val (.ref b2), .val (.ref b3)] [(.int (1 : Int32)), (.ref b3)])) _
    exact kt)
  obtain ⟨cq93, kq93, q93a, q93b, q93c⟩ := isOf hZ eq89 f81
  obtain ⟨_, _, ⟨T93, L93, k93, n93⟩, -, X93, ⟨Lc93, hQ93, l93, y93, z93⟩, ls93⟩ := X89.virtualBack hx (y := (⟨"com/example/ranked_text_search/rankedtextsearch/Index$Postings", "frequency", "(I)I"⟩ : MethodName)) (z := (⟨"com/example/ranked_text_search/rankedtextsearch/Index$Postings", "frequency", "(I)I"⟩ : MethodName)) hown (mvT hZ (hw _ (List.mem_of_getElem? (i := 21) rfl))) (mvT hZ (hw _ (List.mem_of_getElem? (i := 22) rfl))) (notFace_of_selects (args := #[]) (mvT hZ (hw _ (List.mem_of_getElem? (i := 24) rfl)))) (mvT hZ (hw _ (List.mem_of_getElem? (i := 24) rfl))) (mvT hZ (hw _ (List.mem_of_getElem? (i := 23) rfl))) (by decide) (backOf (W := 0) (rm_freq l Z a0 hw [] b3 ((1 : Int32)) b1 4 1 ((fun q => if q = 3 then (.int (((xb + x0) + x1) + x2)) else (fun q => if q = 2 then (.int ((xb + x0) + x1)) else (fun q => if q = 1 then (.int (xb + x0)) else (fun q => if q = 0 then (.int xb) else (fun _ => (.int (0 : Int32))) q) q) q) q)) ((xb + x0)) (((xb + x0) + x1)) T78.heap n0 z86 Fq78_starts f79 (by decide) (by decide) (by decide) (by decide) (by decide) rfl rfl) hZ (hw _ (List.mem_of_getElem? (i := 25) rfl)) (hw _ (List.mem_of_getElem? (i := 3) rfl)) (by decide) (by decide)) q93a q93c (g := (mkF m 89 #[.val (.int xb), .val (.int x0), .val (.int x1), .val (.int x2), .val (.ref b1), .val (.ref b2), .val (.ref b3)] [(.int (1 : Int32)), (.ref b3)])) rfl (by rw [hml]; rfl) (Steps.refl _) (argsL := [(.int (1 : Int32))]) (rest := []) (lenOf own_pd2 rfl) rfl (by show 2 * 0 + _ ≤ _; exact Nat.le_of_eq rfl) (hb hby at_89) (fun _ _ => ⟨rfl, eq89, (by decide : 4 + 0 ≤ _), (by decide : 10 + 0 ≤ _)⟩)
  dsimp only [Pt.U, Pt.locs, Pt.cells, Pt.slots] at X93 l93 y93 z93 ls93 hQ93
  subst l93 y93 z93
  obtain ⟨rfl, Nq93, eq93⟩ := hQ93
  have N93 := Fr.app N89 Nq93
  have st94 : own_Go p e below (T93.setTop (mkF m 92 #[.val (.int xb), .val (.int x0), .val (.int x1), .val (.int x2), .val (.ref b1), .val (.ref b2), .val (.ref b3)] [(.int (((xb + x0) + x1) - (xb + x0)))])) (s₁.setTop (entryFrame m #[(.int xb), (.int x0), (.int x1), (.int x2)] maxLocals)) := fun t kt => st92 t (ls93.trans kt)
  have hc95 : (((xb + x0) + x1) - (xb + x0)) = x1 := by grind
  have st96 : own_Go p e below (T93.setTop (mkF m 99 #[.val (.int xb), .val (.int x0), .val (.int x1), .val (.int x2), .val (.ref b1), .val (.ref b2), .val (.ref b3)] [(.int (2 : Int32)), (.ref b3)])) (s₁.setTop (entryFrame m #[(.int xb), (.int x0), (.int x1), (.int x2)] maxLocals)) := fun t kt => st94 t (by
    show Steps p.tables e below (T93.setTop (mkF m 92 #[.val (.int xb), .val (.int x0), .val (.int x1), .val (.int x2), .val (.ref b1), .val (.ref b2), .val (.ref b3)] [(.int (((xb + x0) + x1) - (xb + x0)))])) _
    refine XS.iloadN X93.here hx rfl (hb hby at_92) rfl ?_
    show Steps p.tables e below (T93.setTop (mkF m 93 #[.val (.int xb), .val (.int x0), .val (.int x1), .val (.int x2), .val (.ref b1), .val (.ref b2), .val (.ref b3)] [(.int x1), (.int (((xb + x0) + x1) - (xb + x0)))])) _
    refine XS.icmpNo X93.here hx rfl (hb hby at_93) rfl (teq hc95).2 ?_
    show Steps p.tables e below (T93.setTop (mkF m 96 #[.val (.int xb), .val (.int x0), .val (.int x1), .val (.int x2), .val (.ref b1), .val (.ref b2), .val (.ref b3)] [])) _
    refine XS.aload X93.here hx rfl (hb hby at_96) rfl rfl ?_
    show Steps p.tables e below (T93.setTop (mkF m 98 #[.val (.int xb), .val (.int x0), .val (.int x1), .val (.int x2), .val (.ref b1), .val (.ref b2), .val (.ref b3)] [(.ref b3)])) _
    refine XS.iconst X93.here hx rfl (hb hby at_98) ?_
    show Steps p.tables e below (T93.setTop (mkF m 99 #[.val (.int xb), .val (.int x0), .val (.int x1), .val (.int x2), .val (.ref b1), .val (.ref b2), .val (.ref b3)] [(.int (2 : Int32)), (.ref b3)])) _
    exact kt)
  obtain ⟨cq97, kq97, q97a, q97b, q97c⟩ := isOf hZ eq93 f81
  obtain ⟨_, _, ⟨T97, L97, k97, n97⟩, -, X97, ⟨Lc97, hQ97, l97, y97, z97⟩, ls97⟩ := X93.virtualBack hx (y := (⟨"com/example/ranked_text_search/rankedtextsearch/Index$Postings", "frequency", "(I)I"⟩ : MethodName)) (z := (⟨"com/example/ranked_text_search/rankedtextsearch/Index$Postings", "frequency", "(I)I"⟩ : MethodName)) hown (mvT hZ (hw _ (List.mem_of_getElem? (i := 21) rfl))) (mvT hZ (hw _ (List.mem_of_getElem? (i := 22) rfl))) (notFace_of_selects (args := #[]) (mvT hZ (hw _ (List.mem_of_getElem? (i := 24) rfl)))) (mvT hZ (hw _ (List.mem_of_getElem? (i := 24) rfl))) (mvT hZ (hw _ (List.mem_of_getElem? (i := 23) rfl))) (by decide) (backOf (W := 0) (rm_freq l Z a0 hw [] b3 ((2 : Int32)) b1 4 2 ((fun q => if q = 3 then (.int (((xb + x0) + x1) + x2)) else (fun q => if q = 2 then (.int ((xb + x0) + x1)) else (fun q => if q = 1 then (.int (xb + x0)) else (fun q => if q = 0 then (.int xb) else (fun _ => (.int (0 : Int32))) q) q) q) q)) (((xb + x0) + x1)) ((((xb + x0) + x1) + x2)) T78.heap n0 z86 Fq78_starts f79 (by decide) (by decide) (by decide) (by decide) (by decide) rfl rfl) hZ (hw _ (List.mem_of_getElem? (i := 25) rfl)) (hw _ (List.mem_of_getElem? (i := 3) rfl)) (by decide) (by decide)) q97a q97c (g := (mkF m 99 #[.val (.int xb), .val (.int x0), .val (.int x1), .val (.int x2), .val (.ref b1), .val (.ref b2), .val (.ref b3)] [(.int (2 : Int32)), (.ref b3)])) rfl (by rw [hml]; rfl) (Steps.refl _) (argsL := [(.int (2 : Int32))]) (rest := []) (lenOf own_pd2 rfl) rfl (by show 2 * 0 + _ ≤ _; exact Nat.le_of_eq rfl) (hb hby at_99) (fun _ _ => ⟨rfl, eq93, (by decide : 4 + 0 ≤ _), (by decide : 10 + 0 ≤ _)⟩)
  dsimp only [Pt.U, Pt.locs, Pt.cells, Pt.slots] at X97 l97 y97 z97 ls97 hQ97
  subst l97 y97 z97
  obtain ⟨rfl, Nq97, eq97⟩ := hQ97
  have N97 := Fr.app N93 Nq97
  have st98 : own_Go p e below (T97.setTop (mkF m 102 #[.val (.int xb), .val (.int x0), .val (.int x1), .val (.int x2), .val (.ref b1), .val (.ref b2), .val (.ref b3)] [(.int ((((xb + x0) + x1) + x2) - ((xb + x0) + x1)))])) (s₁.setTop (entryFrame m #[(.int xb), (.int x0), (.int x1), (.int x2)] maxLocals)) := fun t kt => st96 t (ls97.trans kt)
  have hc99 : ((((xb + x0) + x1) + x2) - ((xb + x0) + x1)) = x2 := by grind
  have st100 : own_Go p e below (T97.setTop (mkF m 111 #[.val (.int xb), .val (.int x0), .val (.int x1), .val (.int x2), .val (.ref b1), .val (.ref b2), .val (.ref b3)] [(.int (1 : Int32))])) (s₁.setTop (entryFrame m #[(.int xb), (.int x0), (.int x1), (.int x2)] maxLocals)) := fun t kt => st98 t (by
    show Steps p.tables e below (T97.setTop (mkF m 102 #[.val (.int xb), .val (.int x0), .val (.int x1), .val (.int x2), .val (.ref b1), .val (.ref b2), .val (.ref b3)] [(.int ((((xb + x0) + x1) + x2) - ((xb + x0) + x1)))])) _
    refine XS.iloadN X97.here hx rfl (hb hby at_102) rfl ?_
    show Steps p.tables e below (T97.setTop (mkF m 103 #[.val (.int xb), .val (.int x0), .val (.int x1), .val (.int x2), .val (.ref b1), .val (.ref b2), .val (.ref b3)] [(.int x2), (.int ((((xb + x0) + x1) + x2) - ((xb + x0) + x1)))])) _
    refine XS.icmpNo X97.here hx rfl (hb hby at_103) rfl (teq hc99).2 ?_
    show Steps p.tables e below (T97.setTop (mkF m 106 #[.val (.int xb), .val (.int x0), .val (.int x1), .val (.int x2), .val (.ref b1), .val (.ref b2), .val (.ref b3)] [])) _
    refine XS.iconst X97.here hx rfl (hb hby at_106) ?_
    show Steps p.tables e below (T97.setTop (mkF m 107 #[.val (.int xb), .val (.int x0), .val (.int x1), .val (.int x2), .val (.ref b1), .val (.ref b2), .val (.ref b3)] [(.int (1 : Int32))])) _
    refine XS.goto X97.here hx rfl (pc0 := 107) (pc' := 111) rfl (hb hby at_107) (by decide) (by decide) ?_
    show Steps p.tables e below (T97.setTop (mkF m 111 #[.val (.int xb), .val (.int x0), .val (.int x1), .val (.int x2), .val (.ref b1), .val (.ref b2), .val (.ref b3)] [(.int (1 : Int32))])) _
    exact kt)
  obtain ⟨fs, hr, hrun, hended, hW, hsame⟩ := X97.leave (v := (some (.int (1 : Int32)))) (fun h => by rw [Bd.returns] at h; cases h)
  refine ⟨_, _, st100 _ ?_, hrun, hended, _, _, rfl, ?_, ⟨_, rfl⟩, hW, hsame.mono (by decide) (by decide)⟩
  · exact retN X97 hx (t := .boolean) Bd.returns (by simp) (hb hby at_111) hr
  · show Q_rm_law Z xb x0 x1 x2 h0 n0 _ T97.heap _
    rw [eq97]
    exact ⟨rfl, N97⟩
set_option maxRecDepth 65536 in
set_option maxHeartbeats 40000000 in
theorem comes_1 {Post : Tables → Env → Array Value → State → Outcome → State → Prop} (hpost : ∀ tb e args s v u, (limb_1_1.after args s (.returned v) u = true ∧ limb_1_2.after args s (.returned v) u = true ∧ True) → FrameEnd s (.returned v) u (Jvm.fieldLocs frame_1_writes args s ++ Jvm.arrayLocs frame_1_arrays args s ++ Jvm.staticLocs frame_1_statics s) 16 128 → Post tb e args s (.returned v) u) :
    ArmFor flags0 classFile x code maxLocals ret World_1 tables_1 room_1 Calls_1 rest_1 Pre_1 Post := by
  intro l hfl _ _ p e ha hc hk s m args below hf hA hF happ hP
  obtain ⟨hcalls, hrest, hpre⟩ := hP
  obtain ⟨-, -, -, hnamed, -, -, -, hat⟩ := (Spec.applies_iff hf).mp happ
  obtain ⟨hg, hn⟩ := and_e (Cond.before_iff.mp (show (Jvm.Cond.and given_1 narrow_1).before args s = true from hpre))
  obtain ⟨gg1, gg2⟩ := and_e hg
  obtain ⟨gg3, gg4⟩ := and_e gg2
  obtain ⟨gg5, gg6⟩ := and_e gg4
  obtain ⟨gg7, gg8⟩ := and_e gg6
  obtain ⟨w0, w1, w2, w3, rfl⟩ : ∃ w0 w1 w2 w3 : Value, args = #[w0, w1, w2, w3] := by
    have hs : args.size = 4 := by simpa [Cond.value, given_1] using gg1
    obtain ⟨L⟩ := args
    match L, hs with
    | [w0, w1, w2, w3], _ => exact ⟨w0, w1, w2, w3, rfl⟩
  have hw := fun d (hd : d ∈ tables_1) => atoms_spec (ws := Jvm.Cond.code x code maxLocals ret :: tables_1) hat d (List.mem_cons_of_mem _ hd)
  have hfit : Fit s := fun {y c} hc i hi => by
    obtain ⟨ha, rfl⟩ := Array.getElem?_eq_some_iff.mp hc
    have q := List.all_eq_true.mp ((Array.all_eq_true_iff_forall_mem.mp hF) _ (Array.getElem_mem ha)) i (List.mem_range.mpr hi)
    simpa [Array.getElem?_eq_getElem hi] using q
  obtain ⟨i0, ei0⟩ := is_v gg3
  obtain rfl : w0 = (.int i0) := Option.some.inj ei0
  obtain ⟨i1, ei1⟩ := is_v gg5
  obtain rfl : w1 = (.int i1) := Option.some.inj ei1
  obtain ⟨i2, ei2⟩ := is_v gg7
  obtain rfl : w2 = (.int i2) := Option.some.inj ei2
  obtain ⟨i3, ei3⟩ := is_v gg8
  obtain rfl : w3 = (.int i3) := Option.some.inj ei3
  obtain ⟨n, o, h1, h2, h3, _, L, rfl, ⟨rfl, N⟩, hq⟩ := rm_law l s _ hw tables_1 i0 i1 i2 i3  s.heap s.heap.size (Nat.le_refl _)  p e ha hc hk s m _ below hf ((Spec.applies_iff_loose hf).mp happ).1 ⟨rfl, State.Warmed39.refl s, rfl⟩ trivial
  refine ⟨n, _, h1, h2, h3, hpost _ _ _ _ _ _ ⟨Cond.after_iff.mpr rfl, Cond.after_iff.mpr (eq_i res_at (Term.int_eval (1)) rfl), trivial⟩ ⟨hq.1, hq.2.1, (hq.2.2.sift fun y hy => Or.inr (N y hy)).mono (by decide) (by decide)⟩⟩
theorem main_1_1 : Claimed_1_1 := comes_1 fun _ _ _ _ _ _ h hF => ⟨h.1, hF⟩
theorem main_1_2 : Claimed_1_2 := comes_1 fun _ _ _ _ _ _ h hF => ⟨h.2.1, hF⟩
end Jvm.Pilot.@@N@@
namespace Jvm.Pilot.@@N@@
open Jvm Jvm.ClassFile Sem Op Lib Jvm.Free Jvm.Stand Jvm.Pilot.@@N@@.Jvm.D
/-! MADE BY PROGRAM (witnessworld.py) out of the Statement's table words and the real class files: 10 classes; the members and pool entries that the words name. The judged class is class 1, her method 1. -/
namespace start1
open Jvm.ClassFile
def u (s : String) : CpInfo := .utf8 (stringToUtf16 s)
/-- a pool by its gaps: so many unusable entries, then the entry; so many at the end -/
def gap : Nat → List CpInfo → List CpInfo
  | 0, r => r
  | n + 1, r => .unusable :: gap n r
def poolList (es : List (Nat × CpInfo)) (last : Nat) : List CpInfo := es.foldr (fun e r => gap e.1 (e.2 :: r)) (gap last [])
def pool (es : List (Nat × CpInfo)) (last : Nat) : Array CpInfo := ⟨poolList es last⟩
def fileOf (pool : Array CpInfo) (this : Nat) (attrs : Array Attribute := #[]) (ms : Array MethodInfo := #[]) (fl : Nat := 33) (sup : Nat := 0) (ifs : Array Nat := #[]) (fds : Array FieldInfo := #[]) : ClassFile where
  minorVersion := 0
  majorVersion := 65
  constantPool := pool
  accessFlags := fl
  thisClass := this
  superClass := sup
  interfaces := ifs
  fields := fds
  methods := ms
  attributes := attrs
def plain (name : String) (sup : Option ClassId) : Class where
  name := name
  kind := .ordinary
  loader := none
  accessFlags := 33
  super := sup
  interfaces := #[]
  cf := none
  fields := #[]
  methods := #[]
  instanceTypes := #[]
  staticTypes := #[]
  resolved := #[]
  callSites := []
  init := .initialized
  statics := none
  mirror := none

def pool0 : Array CpInfo := pool [(5, u "<init>"), (0, u "()V"), (1, .class_ 10), (1, u "java/lang/Object")] 113

def k0c0 : Code := { maxStack := 0, maxLocals := 1, code := object_method_1_code, exceptionTable := #[], attributes := #[] }
def k0m0 : Method := { name := "<init>", desc := "()V", sig := { parameters := [], returnType := none }, accessFlags := 1, code := some k0c0 }
/-- java/lang/Object -/
def k0 : Class := { plain "java/lang/Object" none with
  accessFlags := 33
  interfaces := #[]
  cf := some (fileOf pool0 8 #[] #[{ accessFlags := 1, nameIndex := 5, descriptorIndex := 6, attributes := #[] }] 33 0 #[] #[])
  fields := #[]
  methods := #[k0m0]
  instanceTypes := #[]
  staticTypes := #[]
  resolved := Array.replicate 124 none
  statics := none }

def pool1 : Array CpInfo := pool [(2, .class_ 4), (1, u "java/lang/Object"), (0, u "<init>"), (0, u "()V"), (0, .class_ 8), (0, u "com/example/ranked_text_search/rankedtextsearch/Index$Postings"), (0, .methodref 7 10), (0, .nameAndType 5 11), (0, u "([I[I[I)V"), (0, .methodref 7 13), (0, .nameAndType 14 15), (0, u "frequency"), (0, u "(I)I"), (0, .class_ 17), (0, u "com/example/ranked_text_search/rankedtextsearch/PostingsFrequencyPinLaw"), (2, u "law"), (0, u "(IIII)Z")] 9

def k1m0 : Method := { name := "<init>", desc := "()V", sig := { parameters := [], returnType := none }, accessFlags := 2, code := none }
def k1c1 : Code := { maxStack := 5, maxLocals := 7, code := code, exceptionTable := #[], attributes := #[] }
def k1m1 : Method := { name := "law", desc := "(IIII)Z", sig := { parameters := [.int, .int, .int, .int], returnType := some .boolean }, accessFlags := 9, code := some k1c1 }
/-- com/example/ranked_text_search/rankedtextsearch/PostingsFrequencyPinLaw -/
def k1 : Class := { plain "com/example/ranked_text_search/rankedtextsearch/PostingsFrequencyPinLaw" (some 0) with
  accessFlags := 49
  interfaces := #[]
  cf := some (fileOf pool1 16 #[] #[{ accessFlags := 2, nameIndex := 5, descriptorIndex := 6, attributes := #[] }, { accessFlags := 9, nameIndex := 20, descriptorIndex := 21, attributes := #[] }] 49 2 #[] #[])
  fields := #[]
  methods := #[k1m0, k1m1]
  instanceTypes := #[]
  staticTypes := #[]
  resolved := Array.replicate 31 none
  statics := none }

def pool2 : Array CpInfo := pool [(1, .methodref 2 3), (0, .class_ 4), (0, .nameAndType 5 6), (0, u "java/lang/Object"), (0, u "<init>"), (0, u "()V"), (0, .class_ 8), (0, u "java/lang/Record")] 13

def k2c0 : Code := { maxStack := 1, maxLocals := 1, code := jdk_30_method_1_code, exceptionTable := #[], attributes := #[] }
def k2m0 : Method := { name := "<init>", desc := "()V", sig := { parameters := [], returnType := none }, accessFlags := 4, code := some k2c0 }
/-- java/lang/Record -/
def k2 : Class := { plain "java/lang/Record" (some 0) with
  accessFlags := 1057
  interfaces := #[]
  cf := some (fileOf pool2 7 #[] #[{ accessFlags := 4, nameIndex := 5, descriptorIndex := 6, attributes := #[] }] 1057 2 #[] #[])
  fields := #[]
  methods := #[k2m0]
  instanceTypes := #[]
  staticTypes := #[]
  resolved := Array.replicate 22 none
  statics := none }

def pool3 : Array CpInfo := pool [(1, .methodref 2 3), (0, .class_ 4), (0, .nameAndType 5 6), (0, u "java/lang/Record"), (0, u "<init>"), (0, u "()V"), (0, .fieldref 8 9), (0, .class_ 10), (0, .nameAndType 11 12), (0, u "com/example/ranked_text_search/rankedtextsearch/Index$Postings"), (0, u "documents"), (0, u "[I"), (0, .fieldref 8 14), (0, .nameAndType 15 12), (0, u "starts"), (0, .fieldref 8 17), (0, .nameAndType 18 12), (0, u "positions"), (18, u "([I[I[I)V"), (3, u "frequency"), (0, u "(I)I"), (9, .class_ 53), (0, u "com/example/ranked_text_search/rankedtextsearch/Index")] 21

def k3c0 : Code := { maxStack := 2, maxLocals := 4, code := prog_28_method_1_code, exceptionTable := #[], attributes := #[] }
def k3m0 : Method := { name := "<init>", desc := "([I[I[I)V", sig := { parameters := [(.array .int), (.array .int), (.array .int)], returnType := none }, accessFlags := 0, code := some k3c0 }
def k3c1 : Code := { maxStack := 3, maxLocals := 2, code := prog_28_method_2_code, exceptionTable := #[], attributes := #[] }
def k3m1 : Method := { name := "frequency", desc := "(I)I", sig := { parameters := [.int], returnType := some .int }, accessFlags := 0, code := some k3c1 }
/-- com/example/ranked_text_search/rankedtextsearch/Index$Postings -/
def k3 : Class := { plain "com/example/ranked_text_search/rankedtextsearch/Index$Postings" (some 2) with
  accessFlags := 48
  interfaces := #[]
  cf := some (fileOf pool3 8 #[.nestHost 52] #[{ accessFlags := 0, nameIndex := 5, descriptorIndex := 37, attributes := #[] }, { accessFlags := 0, nameIndex := 41, descriptorIndex := 42, attributes := #[] }] 48 2 #[] #[{ accessFlags := 18, nameIndex := 11, descriptorIndex := 12, attributes := #[] }, { accessFlags := 18, nameIndex := 15, descriptorIndex := 12, attributes := #[] }, { accessFlags := 18, nameIndex := 18, descriptorIndex := 12, attributes := #[] }])
  fields := #[{ name := "documents", type := (.array .int), accessFlags := 18, slot := 0, constantValue := 0 }, { name := "starts", type := (.array .int), accessFlags := 18, slot := 1, constantValue := 0 }, { name := "positions", type := (.array .int), accessFlags := 18, slot := 2, constantValue := 0 }]
  methods := #[k3m0, k3m1]
  instanceTypes := #[(.array .int), (.array .int), (.array .int)]
  staticTypes := #[]
  resolved := Array.replicate 75 none
  statics := none }

def pool4 : Array CpInfo := pool [(1, u "java/lang/Cloneable"), (0, .class_ 1), (0, u "java/lang/Object"), (0, .class_ 3)] 3

/-- java/lang/Cloneable -/
def k4 : Class := { plain "java/lang/Cloneable" (some 0) with
  accessFlags := 1537
  interfaces := #[]
  cf := some (fileOf pool4 2 #[] #[] 1537 4 #[] #[])
  fields := #[]
  methods := #[]
  instanceTypes := #[]
  staticTypes := #[]
  resolved := Array.replicate 8 none
  statics := none }

def pool5 : Array CpInfo := pool [(1, u "java/io/Serializable"), (0, .class_ 1), (0, u "java/lang/Object"), (0, .class_ 3)] 3

/-- java/io/Serializable -/
def k5 : Class := { plain "java/io/Serializable" (some 0) with
  accessFlags := 1537
  interfaces := #[]
  cf := some (fileOf pool5 2 #[] #[] 1537 4 #[] #[])
  fields := #[]
  methods := #[]
  instanceTypes := #[]
  staticTypes := #[]
  resolved := Array.replicate 8 none
  statics := none }

/-- the primitive byte -/
def k6 : Class := { plain "byte" none with kind := .primitive 'B', accessFlags := 0x411 }
/-- [B -/
def k7 : Class := { plain "[B" (some 0) with kind := .array 6 .byte, interfaces := #[4, 5], accessFlags := 1041 }

/-- the primitive int -/
def k8 : Class := { plain "int" none with kind := .primitive 'I', accessFlags := 0x411 }
/-- [I -/
def k9 : Class := { plain "[I" (some 0) with kind := .array 8 .int, interfaces := #[4, 5], accessFlags := 1041 }

def heap : Heap := #[]
def classes : Array Class := #[k0, k1, k2, k3, k4, k5, k6, k7, k8, k9]
def interned : List (Array UInt16 × Addr) := []
def slotsUsed : Nat := 0
def theMethod : MethodId := ⟨1, 1⟩
def args0 : Array Value := #[.int 5, .int 5, .int 5, .int 5]
def aboutOver (below : List Frame) : State where
  vm := { classes := classes, interned := interned.toArray }
  heap := heap
  slotsUsed := slotsUsed
  threads := #[{ frames := .invoking theMethod args0 :: below }]
def below0 : List Frame := [.native { method := ⟨0, 0⟩, args := #[] }]
def about1 : State := aboutOver below0
def p0 : Program := .bare "" "" ""
def e0 : Env := launch0.env 0 0 0
theorem w_frames : about1.frames = Frame.invoking theMethod args0 :: below0 := rfl
set_option maxRecDepth 65536 in
theorem w_args : argsFit about1.vm theMethod args0 = true := by decide +kernel
set_option maxRecDepth 65536 in
theorem w_heap : heapFits about1 = true := by decide +kernel
set_option maxRecDepth 65536 in
theorem w_runnable : about1.curStatus? = some .runnable := by decide +kernel
set_option maxRecDepth 65536 in
theorem w_alone : about1.alone = true := by decide +kernel
set_option maxRecDepth 65536 in
theorem w_named : about1.methodNamed? x = some theMethod := by decide +kernel
set_option maxRecDepth 65536 in
theorem w_hears : about1.hears theMethod below0 = true := by decide +kernel
set_option maxRecDepth 65536 in
theorem w_ripe : about1.ripe theMethod args0 below0 = true := by decide +kernel
theorem w_running : about1.status = .running := rfl
set_option maxRecDepth 65536 in
theorem w_room : about1.hasRoom e0.platform room_1 = true :=
  launch0.hasRoom_least _ room_1 (by decide +kernel) (by decide +kernel) (by decide +kernel) (by decide +kernel) (by decide +kernel) (by decide +kernel)
theorem allAtoms_all (ts : List Jvm.Cond) (a : Array Jvm.Value) (st : Jvm.State) : (allAtoms ts).before a st = ts.all (fun c => c.before a st) := by
  induction ts with
  | nil => rfl
  | cons c t ih =>
    show (Jvm.Cond.and c (allAtoms t)).before a st = _
    rw [Jvm.Cond.before_and, ih, List.all_cons]
def words1 : List Jvm.Cond := Jvm.Cond.code x code maxLocals ret :: tables_1
/-- a 'code' word, met by the world's own term for the bytes: nothing is compared byte by byte -/
theorem code_word {y : MethodName} {bytes : ByteArray} {mx : Nat} {rt : Option FieldType} {a : Array Value} {s : State} {m : MethodId} {meth : Method} {c : Code} (h1 : s.methodNamed? y = some m) (h2 : s.vm.method? m = some meth) (h3 : meth.code = some c) (h4 : c.code = bytes)
    (h5 : (c.maxLocals == mx && c.exceptionTable.isEmpty && decide (c.maxStack ≤ mostOperands) && decide (meth.sig.returnType = rt) && !meth.locks && decide (parseMethodDescriptor y.desc = some meth.sig)) = true) : (Jvm.Cond.code y bytes mx rt).before a s = true := by
  simp only [Bool.and_eq_true, beq_iff_eq, Bool.not_eq_true', decide_eq_true_eq] at h5
  obtain ⟨⟨⟨⟨⟨g1, g2⟩, g3⟩, g4⟩, g5⟩, g6⟩ := h5
  simp [Cond.before, Cond.holds, Cond.value, h1, h2, h3, h4, g1, g2, g3, g4, g5, g6]
def isCode : Jvm.Cond → Bool
  | .code _ _ _ _ => true
  | _ => false
theorem all_split {L : List Jvm.Cond} {P : Jvm.Cond → Bool} (h1 : L.all (fun c => isCode c || P c) = true) (h2 : ∀ c ∈ L.filter isCode, P c = true) : L.all P = true := by
  refine List.all_eq_true.mpr fun c hc => ?_
  have h := List.all_eq_true.mp h1 c hc
  rcases Bool.eq_false_or_eq_true (isCode c) with hi | hi
  · exact h2 c (List.mem_filter.mpr ⟨hc, hi⟩)
  · simpa [hi] using h
set_option maxRecDepth 65536 in
theorem w_c0 : (Jvm.Cond.code x code maxLocals ret).before args0 about1 = true := code_word (m := ⟨1, 1⟩) (meth := k1m1) (c := k1c1) (by decide +kernel) rfl rfl rfl (by decide +kernel)
set_option maxRecDepth 65536 in
theorem w_c1 : (Jvm.Cond.code ({ cls := "com/example/ranked_text_search/rankedtextsearch/Index$Postings", name := "<init>", desc := "([I[I[I)V" } : Jvm.MethodName) prog_28_method_1_code (4 : Nat) (Option.none : Option Jvm.ClassFile.FieldType)).before args0 about1 = true := code_word (m := ⟨3, 0⟩) (meth := k3m0) (c := k3c0) (by decide +kernel) rfl rfl rfl (by decide +kernel)
set_option maxRecDepth 65536 in
theorem w_c2 : (Jvm.Cond.code ({ cls := "java/lang/Record", name := "<init>", desc := "()V" } : Jvm.MethodName) jdk_30_method_1_code (1 : Nat) (Option.none : Option Jvm.ClassFile.FieldType)).before args0 about1 = true := code_word (m := ⟨2, 0⟩) (meth := k2m0) (c := k2c0) (by decide +kernel) rfl rfl rfl (by decide +kernel)
set_option maxRecDepth 65536 in
theorem w_c3 : (Jvm.Cond.code ({ cls := "java/lang/Object", name := "<init>", desc := "()V" } : Jvm.MethodName) object_method_1_code (1 : Nat) (Option.none : Option Jvm.ClassFile.FieldType)).before args0 about1 = true := code_word (m := ⟨0, 0⟩) (meth := k0m0) (c := k0c0) (by decide +kernel) rfl rfl rfl (by decide +kernel)
set_option maxRecDepth 65536 in
theorem w_c4 : (Jvm.Cond.code ({ cls := "com/example/ranked_text_search/rankedtextsearch/Index$Postings", name := "frequency", desc := "(I)I" } : Jvm.MethodName) prog_28_method_2_code (2 : Nat) (Option.some Jvm.ClassFile.FieldType.int)).before args0 about1 = true := code_word (m := ⟨3, 1⟩) (meth := k3m1) (c := k3c1) (by decide +kernel) rfl rfl rfl (by decide +kernel)
def codes1 : List Jvm.Cond := [Jvm.Cond.code x code maxLocals ret, Jvm.Cond.code ({ cls := "com/example/ranked_text_search/rankedtextsearch/Index$Postings", name := "<init>", desc := "([I[I[I)V" } : Jvm.MethodName) prog_28_method_1_code (4 : Nat) (Option.none : Option Jvm.ClassFile.FieldType), Jvm.Cond.code ({ cls := "java/lang/Record", name := "<init>", desc := "()V" } : Jvm.MethodName) jdk_30_method_1_code (1 : Nat) (Option.none : Option Jvm.ClassFile.FieldType), Jvm.Cond.code ({ cls := "java/lang/Object", name := "<init>", desc := "()V" } : Jvm.MethodName) object_method_1_code (1 : Nat) (Option.none : Option Jvm.ClassFile.FieldType), Jvm.Cond.code ({ cls := "com/example/ranked_text_search/rankedtextsearch/Index$Postings", name := "frequency", desc := "(I)I" } : Jvm.MethodName) prog_28_method_2_code (2 : Nat) (Option.some Jvm.ClassFile.FieldType.int)]
set_option maxRecDepth 65536 in
theorem codes_eq : words1.filter isCode = codes1 := rfl
theorem w_codes : ∀ c ∈ words1.filter isCode, c.before args0 about1 = true := by
  rw [codes_eq]
  intro c hc
  simp only [codes1, List.mem_cons, List.not_mem_nil, or_false] at hc
  rcases hc with rfl | rfl | rfl | rfl | rfl
  · exact w_c0
  · exact w_c1
  · exact w_c2
  · exact w_c3
  · exact w_c4
set_option maxRecDepth 65536 in
theorem w_t1 : (words1.take 24).all (fun c => isCode c || c.before args0 about1) = true := by decide +kernel
set_option maxRecDepth 65536 in
theorem w_t2 : (words1.drop 24).all (fun c => isCode c || c.before args0 about1) = true := by decide +kernel
theorem w_tables : (allAtoms (Jvm.Cond.code x code maxLocals ret :: tables_1)).before args0 about1 = true := by
  rw [allAtoms_all]
  show words1.all (fun c => c.before args0 about1) = true
  refine all_split ?_ w_codes
  rw [← List.take_append_drop 24 words1, List.all_append, w_t1, w_t2]
  rfl
set_option maxRecDepth 65536 in
theorem w_case : (Jvm.Cond.and given_1 narrow_1).before args0 about1 = true := by decide +kernel
theorem w_applies : (headSpec (Jvm.Cond.code x code maxLocals ret :: tables_1) room_1).applies x e0.platform about1 = true :=
  (Spec.applies_iff w_frames).mpr ⟨w_running, w_runnable, w_alone, w_named, w_hears, w_ripe, w_room, w_tables⟩
theorem atStart : AtStart classFile x code maxLocals ret World_1 tables_1 room_1 Calls_1 rest_1 Pre_1 launch0 p0 e0 about1 theMethod args0 below0 :=
  ⟨lists_1, trivial, launch0.admits_env _ _ _, launch0.least_env, fairChoices_fair.cas, fairChoices_fair.clock, w_frames, w_args, w_heap, w_applies, trivial, trivial, w_case⟩
end start1
theorem witness_1 : WitnessClaimed_1 := ⟨start1.p0, start1.e0, start1.about1, start1.theMethod, start1.args0, start1.below0, start1.atStart⟩
end Jvm.Pilot.@@N@@
