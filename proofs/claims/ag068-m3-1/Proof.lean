import JvmDerived
import JvmDerived.Pilot.@@N@@Statement
import JvmDerived.Pilot.@@N@@Code
set_option linter.unusedVariables false
set_option linter.unusedSimpArgs false
@@BLOCK:HandJ.lean.txt@@
@@BLOCK:SymMore.lean.txt@@
namespace Jvm.Pilot.@@N@@
open Jvm Jvm.ClassFile Sem Op Lib Jvm.Free Jvm.Stand Jvm.LawKit Jvm.RoadKit Bundle Jvm.Pilot.@@N@@.Jvm.D
theorem own_w {α : Type _} {P : α → Prop} {L : List α} (hw : ∀ d ∈ L, P d) (i : Nat) {w : α} (h : L[i]? = some w) : P w := hw w (List.mem_of_getElem? h)
theorem own_s84_81 {Z : State} {a0 : Array Value} (hw : ∀ d ∈ tables_1, d.before a0 Z = true) : Jvm.RoadKit.slotOf Z "java/math/BigInteger" "mag" "[I" ≠ Jvm.RoadKit.slotOf Z "java/math/BigInteger" "signum" "I" := Jvm.RoadKit.slot_ne (Or.inr (own_w hw 84 rfl)) (Or.inr (own_w hw 81 rfl)) (by decide) (t := (.array .int)) (t' := .int) (by decide) (by decide)
theorem own_s81_84 {Z : State} {a0 : Array Value} (hw : ∀ d ∈ tables_1, d.before a0 Z = true) : Jvm.RoadKit.slotOf Z "java/math/BigInteger" "signum" "I" ≠ Jvm.RoadKit.slotOf Z "java/math/BigInteger" "mag" "[I" := Jvm.RoadKit.slot_ne (Or.inr (own_w hw 81 rfl)) (Or.inr (own_w hw 84 rfl)) (by decide) (t := .int) (t' := (.array .int)) (by decide) (by decide)
theorem own_s20_10 {Z : State} {a0 : Array Value} (hw : ∀ d ∈ tables_1, d.before a0 Z = true) : Jvm.RoadKit.slotOf Z "com/example/pactum/pactum/admission/ExactSum" "beyond" "Ljava/math/BigInteger;" ≠ Jvm.RoadKit.slotOf Z "com/example/pactum/pactum/admission/ExactSum" "value" "J" := Jvm.RoadKit.slot_ne (Or.inl (own_w hw 20 rfl)) (Or.inl (own_w hw 10 rfl)) (by decide) (t := (.object "java/math/BigInteger")) (t' := .long) (by decide) (by decide)
theorem own_s10_20 {Z : State} {a0 : Array Value} (hw : ∀ d ∈ tables_1, d.before a0 Z = true) : Jvm.RoadKit.slotOf Z "com/example/pactum/pactum/admission/ExactSum" "value" "J" ≠ Jvm.RoadKit.slotOf Z "com/example/pactum/pactum/admission/ExactSum" "beyond" "Ljava/math/BigInteger;" := Jvm.RoadKit.slot_ne (Or.inl (own_w hw 10 rfl)) (Or.inl (own_w hw 20 rfl)) (by decide) (t := .long) (t' := (.object "java/math/BigInteger")) (by decide) (by decide)
abbrev own_Go (p : Program) (e : Env) (below : List Frame) (A B : State) : Prop := ∀ t, Steps p.tables e below A t → Steps p.tables e below B t
abbrev own_K (p : Program) (e : Env) (below : List Frame) (T : State) (m : MethodId) (pc : Nat) (L : Array Slot) (S : List Value) (B : State) : Prop := own_Go p e below (T.setTop (mkF m pc L S)) B
abbrev own_At (p : Program) (e : Env) (below : List Frame) (T : State) (m : MethodId) (pc : Nat) (L : Array Slot) (S : List Value) (t : State) : Prop := Steps p.tables e below (T.setTop (mkF m pc L S)) t
section OwnArr
variable {Z : State} {h h' : Heap} {a b : Addr} {ty : FieldType} {n i : Nat} {f : Nat → Value} {v : Value}
def own_Av (Z : State) (h : Heap) (a : Addr) (ty : FieldType) (n : Nat) (f : Nat → Value) : Prop := ∃ c : Cell, Arr Z h a c ty ∧ c.slots.size = n ∧ n < 2 ^ 31 ∧ ∀ j, j < n → c.slots[j]? = some (f j)
theorem own_Av.lt (F : own_Av Z h a ty n f) : a < h.size := by obtain ⟨c, A, -⟩ := F; exact A.lt
theorem own_Av.ext (F : own_Av Z h a ty n f) (E : Ext h h') : own_Av Z h' a ty n f := by obtain ⟨c, A, r⟩ := F; exact ⟨c, A.ext E, r⟩
theorem own_Av.other {sl : Nat} (F : own_Av Z h a ty n f) (W : Wr h h' b sl v) (q : a ≠ b) : own_Av Z h' a ty n f := by obtain ⟨c, A, r⟩ := F; exact ⟨c, A.other W q, r⟩
theorem own_Av.keep {ws : List Addr} (F : own_Av Z h a ty n f) (K : Keep h h' ws) (q : a ∉ ws) : own_Av Z h' a ty n f := by obtain ⟨c, A, r⟩ := F; exact ⟨c, ⟨K.2.1 a c A.1 q, A.2⟩, r⟩
theorem own_Av.congr {g : Nat → Value} (F : own_Av Z h a ty n f) (q : ∀ j, j < n → f j = g j) : own_Av Z h a ty n g := by obtain ⟨c, A, r1, r2, r3⟩ := F; exact ⟨c, A, r1, r2, fun j hj => by rw [r3 j hj, q j hj]⟩
theorem own_Av.new {k : ClassId} {z : Int32} (A : Arr Z h a (newA k ty z) ty) (hz : ¬ z < 0) (hn : z.toNatClampNeg = n) : own_Av Z h a ty n (fun _ => defaultValue ty) := by
  refine ⟨_, A, (sz_new _ _ _).trans hn, hn ▸ (back32 hz).2, fun j hj => ?_⟩
  simp [newA, hn, hj]
theorem own_Av.set (F : own_Av Z h a ty n f) (W : Wr h h' a i v) : own_Av Z h' a ty n (fun q => if q = i then v else f q) := by
  obtain ⟨c, A, r1, r2, r3⟩ := F
  refine ⟨_, A.same W, (sz_set _ _ _).trans r1, r2, fun j hj => ?_⟩
  have e : (c.setSlot i v).slots = c.slots.setIfInBounds i v := rfl
  rw [e, Array.getElem?_setIfInBounds]
  by_cases q : i = j
  · subst q
    simp [r1, hj]
  · have q' : ¬ j = i := fun z => q z.symm
    simp [q, q', r3 j hj]
end OwnArr
section OwnArrSteps
variable {p : Program} {l : Launch} {e : Env} {R : Room} {s : State} {m : MethodId} {args : Array Value} {below : List Frame} {meth : Method} {c : Code} {T : State} {locs : List Loc} {cells slots : Nat} {Z : State} {h : Heap} {a : Addr} {n i : Nat} {f : Nat → Value} {v : Value}
theorem own_in {c : Cell} {j : Int32} (r1 : c.slots.size = n) (h1 : ¬ j < 0) (h2 : j.toNatClampNeg = i) (h3 : i < n) : ¬ (j < 0 ∨ c.slots.size ≤ j.toNatClampNeg) := fun q => q.elim h1 fun z => by rw [r1, h2] at z; exact absurd h3 (Nat.not_lt.mpr z)
theorem own_iaload (X : Stand p l e R s m args below meth c T locs cells slots) (hx : p.tables.exec = Jvm.exec) (hZ : Z.Warmed39 s.vm) (eT : T.heap = h) (F : own_Av Z h a .int n f) {j : Int32} (h1 : ¬ j < 0) (h2 : j.toNatClampNeg = i) (h3 : i < n) (h4 : f i = v)
    {g : JFrame} (hg : g.method = m) {rest : List Value} (hs : g.stack = .int j :: .ref a :: rest) (hd : decode c.code g.pc = .ok (.iaload, 1)) : ∀ target, Steps p.tables e below (T.setTop { g with pc := g.pc + 1, stack := v :: rest }) target → Steps p.tables e below (T.setTop g) target := by
  obtain ⟨cl, A, r1, r2, r3⟩ := F
  intro t k
  exact X.iaload hx (by rw [eT]; exact A.1) (State.isArrayOf_alike hZ.alike A.2.1) A.2.2 (own_in r1 h1 h2 h3) (by rw [h2, r3 i h3, h4]) hg hs hd t k
theorem own_laload (X : Stand p l e R s m args below meth c T locs cells slots) (hx : p.tables.exec = Jvm.exec) (hZ : Z.Warmed39 s.vm) (eT : T.heap = h) (F : own_Av Z h a .long n f) {j : Int32} (h1 : ¬ j < 0) (h2 : j.toNatClampNeg = i) (h3 : i < n) (h4 : f i = v)
    {g : JFrame} (hg : g.method = m) {rest : List Value} (hs : g.stack = .int j :: .ref a :: rest) (hd : decode c.code g.pc = .ok (.laload, 1)) : ∀ target, Steps p.tables e below (T.setTop { g with pc := g.pc + 1, stack := v :: rest }) target → Steps p.tables e below (T.setTop g) target := by
  obtain ⟨cl, A, r1, r2, r3⟩ := F
  intro t k
  exact X.laload hx (by rw [eT]; exact A.1) (State.isArrayOf_alike hZ.alike A.2.1) A.2.2 (own_in r1 h1 h2 h3) (by rw [h2, r3 i h3, h4]) hg hs hd t k
theorem own_aaload {ty : FieldType} (hty : ty.isReference = true) (X : Stand p l e R s m args below meth c T locs cells slots) (hx : p.tables.exec = Jvm.exec) (hZ : Z.Warmed39 s.vm) (eT : T.heap = h) (F : own_Av Z h a ty n f) {j : Int32} (h1 : ¬ j < 0) (h2 : j.toNatClampNeg = i) (h3 : i < n) (h4 : f i = v)
    {g : JFrame} (hg : g.method = m) {rest : List Value} (hs : g.stack = .int j :: .ref a :: rest) (hd : decode c.code g.pc = .ok (.aaload, 1)) : ∀ target, Steps p.tables e below (T.setTop { g with pc := g.pc + 1, stack := v :: rest }) target → Steps p.tables e below (T.setTop g) target := by
  obtain ⟨cl, A, r1, r2, r3⟩ := F
  intro t k
  exact X.aaload hx (by rw [eT]; exact A.1) (State.isArrayOf_alike hZ.alike A.2.1) hty A.2.2 (own_in r1 h1 h2 h3) (by rw [h2, r3 i h3, h4]) hg hs hd t k
theorem own_caload (X : Stand p l e R s m args below meth c T locs cells slots) (hx : p.tables.exec = Jvm.exec) (hZ : Z.Warmed39 s.vm) (eT : T.heap = h) (F : own_Av Z h a .char n f) {j : Int32} (h1 : ¬ j < 0) (h2 : j.toNatClampNeg = i) (h3 : i < n) (h4 : f i = v)
    {g : JFrame} (hg : g.method = m) {rest : List Value} (hs : g.stack = .int j :: .ref a :: rest) (hd : decode c.code g.pc = .ok (.caload, 1)) : ∀ target, Steps p.tables e below (T.setTop { g with pc := g.pc + 1, stack := v :: rest }) target → Steps p.tables e below (T.setTop g) target := by
  obtain ⟨cl, A, r1, r2, r3⟩ := F
  intro t k
  exact X.caload hx (by rw [eT]; exact A.1) (State.isArrayOf_alike hZ.alike A.2.1) A.2.2 (own_in r1 h1 h2 h3) (by rw [h2, r3 i h3, h4]) hg hs hd t k
theorem own_alen {ty : FieldType} (X : Stand p l e R s m args below meth c T locs cells slots) (hx : p.tables.exec = Jvm.exec) (hZ : Z.Warmed39 s.vm) (eT : T.heap = h) (F : own_Av Z h a ty n f)
    {g : JFrame} (hg : g.method = m) {rest : List Value} (hs : g.stack = .ref a :: rest) (hd : decode c.code g.pc = .ok (.arraylength, 1)) : ∀ target, Steps p.tables e below (T.setTop { g with pc := g.pc + 1, stack := .int (Int32.ofNat n) :: rest }) target → Steps p.tables e below (T.setTop g) target := by
  obtain ⟨cl, A, r1, r2, r3⟩ := F
  intro t k
  refine X.arraylength hx (by rw [eT]; exact A.1) (State.isArrayOf_alike hZ.alike A.2.1) hg hs hd t ?_
  rw [r1]
  exact k
theorem own_iastore (X : Stand p l e R s m args below meth c T locs cells slots) (hx : p.tables.exec = Jvm.exec) (hZ : Z.Warmed39 s.vm) (eT : T.heap = h) (F : own_Av Z h a .int n f) {j x : Int32} (h1 : ¬ j < 0) (h2 : j.toNatClampNeg = i) (h3 : i < n)
    {g : JFrame} (hg : g.method = m) {rest : List Value} (hs : g.stack = .int x :: .int j :: .ref a :: rest) (hd : decode c.code g.pc = .ok (.iastore, 1)) :
    ∃ T' h', Stand p l e R s m args below meth c T' (locs ++ [⟨a, i⟩]) cells slots ∧ T'.heap = h' ∧ Wr h h' a i (.int x) ∧ own_Av Z h' a .int n (fun q => if q = i then .int x else f q) ∧ ∀ target, Steps p.tables e below (T'.setTop { g with pc := g.pc + 1, stack := rest }) target → Steps p.tables e below (T.setTop g) target := by
  have F0 := F
  obtain ⟨cl, A, r1, r2, r3⟩ := F
  obtain ⟨T', h', X', e', W', st'⟩ := stI X hx hZ eT A (own_in r1 h1 h2 h3) hg hs hd
  rw [h2] at X' W'
  exact ⟨T', h', X', e', W', F0.set W', st'⟩
theorem own_lastore (X : Stand p l e R s m args below meth c T locs cells slots) (hx : p.tables.exec = Jvm.exec) (hZ : Z.Warmed39 s.vm) (eT : T.heap = h) (F : own_Av Z h a .long n f) {j : Int32} {x : Int64} (h1 : ¬ j < 0) (h2 : j.toNatClampNeg = i) (h3 : i < n)
    {g : JFrame} (hg : g.method = m) {rest : List Value} (hs : g.stack = .long x :: .int j :: .ref a :: rest) (hd : decode c.code g.pc = .ok (.lastore, 1)) :
    ∃ T' h', Stand p l e R s m args below meth c T' (locs ++ [⟨a, i⟩]) cells slots ∧ T'.heap = h' ∧ Wr h h' a i (.long x) ∧ own_Av Z h' a .long n (fun q => if q = i then .long x else f q) ∧ ∀ target, Steps p.tables e below (T'.setTop { g with pc := g.pc + 1, stack := rest }) target → Steps p.tables e below (T.setTop g) target := by
  have F0 := F
  obtain ⟨cl, A, r1, r2, r3⟩ := F
  obtain ⟨T', h', X', e', W', st'⟩ := stJ X hx hZ eT A (own_in r1 h1 h2 h3) hg hs hd
  rw [h2] at X' W'
  exact ⟨T', h', X', e', W', F0.set W', st'⟩
end OwnArrSteps
section OwnCp
variable {p : Program} {l : Launch} {e : Env} {R : Room} {s : State} {m : MethodId} {args : Array Value} {below : List Frame} {meth : Method} {c : Code} {T : State} {locs : List Loc} {cells slots : Nat} {Z : State} {h : Heap} {a b : Addr} {n n' i j k : Nat} {f f' : Nat → Value} {v : Value}
theorem own_nat32 {n : Nat} (h : n < 2 ^ 31) : (Int32.ofNat n).toNatClampNeg = n ∧ ¬ Int32.ofNat n < 0 := by
  have e : (Int32.ofNat n).toInt = n := Int32.toInt_ofNat_small h
  have e0 : (0 : Int32).toInt = 0 := rfl
  refine ⟨?_, ?_⟩
  · show (Int32.ofNat n).toInt.toNat = n
    rw [e]; rfl
  · rw [Int32.lt_iff_toInt_lt, e, e0]
    omega
theorem own_Av.arv {ty : FieldType} (F : own_Av Z h a ty n f) (d : Value) (hf : ∀ q, q < n → fits ty (f q) = true) : ∃ k, Arv Z h a k ty (Int32.ofNat n) ((List.range n).map f) d := by
  obtain ⟨cl, A, r1, r2, r3⟩ := F
  have hg : ∀ q, q < n → ((List.range n).map f).getD q d = f q := fun q hq => by simp [List.getD, hq]
  refine ⟨cl.cls, cl, A, rfl, ?_, (own_nat32 r2).2, fun q hq => ?_, fun q hq => ?_⟩
  · rw [r1, (own_nat32 r2).1]
  · rw [r1] at hq
    rw [r3 q hq, hg q hq]
  · rw [r1] at hq
    rw [hg q hq]; exact hf q hq
theorem own_Av.ofArv {ty : FieldType} {kc : ClassId} {vs : List Value} {d : Value} {g : Nat → Value} (hn : n < 2 ^ 31) (F : Arv Z h a kc ty (Int32.ofNat n) vs d) (hg : ∀ q, q < n → vs.getD q d = g q) : own_Av Z h a ty n g := by
  obtain ⟨cl, A, r0, r1, r2, H, G⟩ := F
  rw [(own_nat32 hn).1] at r1
  exact ⟨cl, A, r1, hn, fun q hq => by rw [H q (by rw [r1]; exact hq), hg q hq]⟩
theorem own_Av.small {ty : FieldType} (F : own_Av Z h a ty n f) : n < 2 ^ 31 := by obtain ⟨cl, A, r1, r2, r3⟩ := F; exact r2
theorem own_splice {f g : Nat → Value} {d : Value} {i j k n n' : Nat} (h4 : i + k ≤ n) (h5 : j + k ≤ n') (q : Nat) (hq : q < n') :
    (((List.range n').map g).take j ++ ((List.range k).map fun z => ((List.range n).map f).getD (i + z) d) ++ ((List.range n').map g).drop (j + k)).getD q d = if j ≤ q ∧ q < j + k then f (i + (q - j)) else g q := by
  have e1 : (((List.range n').map g).take j).length = j := by simp; omega
  have e2 : ((List.range k).map fun z => ((List.range n).map f).getD (i + z) d).length = k := by simp
  have e3 : (((List.range n').map g).take j ++ ((List.range k).map fun z => ((List.range n).map f).getD (i + z) d)).length = j + k := by rw [List.length_append, e1, e2]
  simp only [List.getD_eq_getElem?_getD] at e2 e3 ⊢
  by_cases q1 : q < j
  · rw [if_neg (by omega), List.getElem?_append_left (by rw [e3]; omega), List.getElem?_append_left (by rw [e1]; exact q1), List.getElem?_take_of_lt q1]
    simp [hq]
  · by_cases q2 : q < j + k
    · rw [if_pos ⟨by omega, q2⟩, List.getElem?_append_left (by rw [e3]; exact q2), List.getElem?_append_right (by rw [e1]; omega), e1]
      have z1 : q - j < k := by omega
      have z2 : i + (q - j) < n := by omega
      simp [z1, z2]
    · rw [if_neg (by omega), List.getElem?_append_right (by rw [e3]; omega), e3, List.getElem?_drop]
      have z1 : j + k + (q - (j + k)) = q := by omega
      rw [z1]
      simp [hq]
theorem own_cp {ty : FieldType} {a0 : Array Value} {own : String} {index : Nat} {n0 : Nat} (X : Stand p l e R s m args below meth c T locs cells slots) (hx : p.tables.exec = Jvm.exec) (hZ : Z.Warmed39 s.vm) (hown : s.vm.findClass own = some m.cls)
    (w1 : (Cond.methodLink own index Jvm.Stand.acN).before a0 Z = true) (w2 : (Cond.native Jvm.Stand.acN).before a0 Z = true) (w3 : (Cond.static Jvm.Stand.acN).before a0 Z = true) (w4 : (Cond.initialized "java/lang/System").before a0 Z = true) (eT : T.heap = h)
    (hty : refKind ty = false) (A : own_Av Z h a ty n f) (B : own_Av Z h b ty n' f') (fa : ∀ q, q < n → fits ty (f q) = true) (fb : ∀ q, q < n' → fits ty (f' q) = true)
    {sp dp nn : Int32} (h1 : ¬ sp < 0) (h1' : sp.toNatClampNeg = i) (h2 : ¬ dp < 0) (h2' : dp.toNatClampNeg = j) (h3 : ¬ nn < 0) (h3' : nn.toNatClampNeg = k) (h4 : i + k ≤ n) (h5 : j + k ≤ n') (N : Fr n0 locs) (ge : n0 ≤ b)
    {g : JFrame} (hg : g.method = m) (hsize : g.locals.size = c.maxLocals) {rest : List Value} (hs : g.stack = .int nn :: .int dp :: .ref b :: .int sp :: .ref a :: rest) (hd : decode c.code g.pc = .ok (.invokestatic index, 3))
    (hf : 1 ≤ R.frames) {W : Nat} (hW : 2 * g.monitorRoom + (rest.map fun v => v.category).sum ≤ W) (hlo : W + 18 ≤ R.locals) :
    ∃ T' h' L, Stand p l e R s m args below meth c T' L cells slots ∧ T'.heap = h' ∧ Fr n0 L ∧ Keep h h' [b] ∧ own_Av Z h' b ty n' (fun q => if j ≤ q ∧ q < j + k then f (i + (q - j)) else f' q) ∧
      ∀ target, Steps p.tables e below (T'.setTop { g with pc := g.pc + 3, stack := rest }) target → Steps p.tables e below (T.setTop g) target := by
  have sa := A.small
  have sb := B.small
  obtain ⟨ka, A'⟩ := A.arv (.int 0) fa
  obtain ⟨kb, B'⟩ := B.arv (.int 0) fb
  obtain ⟨T', h', L, X', e', N', K', V', st'⟩ := cpA X hx hZ hown w1 w2 w3 w4 eT A' B' (Or.inl ⟨rfl, hty⟩) h1 h2 h3 (by rw [h1', h3', (own_nat32 sa).1]; exact h4) (by rw [h2', h3', (own_nat32 sb).1]; exact h5) rfl (by rw [h2', h3']; simpa using h5) N ge hg hsize hs hd hf hW (by
    have q : nativeFrameWords "java/lang/System" "arraycopy" 5 = 7 := by decide
    rw [q]; exact hlo)
  rw [h1', h2', h3'] at V'
  exact ⟨T', h', L, X', e', N', K', own_Av.ofArv sb V' (fun q hq => own_splice h4 h5 q hq), st'⟩
end OwnCp
section OwnRef
variable {Z : State} {h h' : Heap} {a b y : Addr} {ty : FieldType} {C : String} {n i : Nat} {f : Nat → Value} {v : Value}
def own_Ra (Z : State) (h : Heap) (a : Addr) (ty : FieldType) (C : String) (n : Nat) (f : Nat → Value) : Prop := ∃ c : Cell, Arr Z h a c (.array ty) ∧ OvrA Z c.cls ty C ∧ c.slots.size = n ∧ n < 2 ^ 31 ∧ ∀ j, j < n → c.slots[j]? = some (f j)
theorem own_Ra.lt (F : own_Ra Z h a ty C n f) : a < h.size := by obtain ⟨c, A, -⟩ := F; exact A.lt
theorem own_Ra.ext (F : own_Ra Z h a ty C n f) (E : Ext h h') : own_Ra Z h' a ty C n f := by obtain ⟨c, A, r⟩ := F; exact ⟨c, A.ext E, r⟩
theorem own_Ra.other {sl : Nat} (F : own_Ra Z h a ty C n f) (W : Wr h h' b sl v) (q : a ≠ b) : own_Ra Z h' a ty C n f := by obtain ⟨c, A, r⟩ := F; exact ⟨c, A.other W q, r⟩
theorem own_Ra.keep {ws : List Addr} (F : own_Ra Z h a ty C n f) (K : Keep h h' ws) (q : a ∉ ws) : own_Ra Z h' a ty C n f := by obtain ⟨c, A, r⟩ := F; exact ⟨c, ⟨K.2.1 a c A.1 q, A.2⟩, r⟩
theorem own_Ra.av (F : own_Ra Z h a ty C n f) : own_Av Z h a (.array ty) n f := by obtain ⟨c, A, -, r⟩ := F; exact ⟨c, A, r⟩
theorem own_Ra.congr {g : Nat → Value} (F : own_Ra Z h a ty C n f) (q : ∀ j, j < n → f j = g j) : own_Ra Z h a ty C n g := by obtain ⟨c, A, r0, r1, r2, r3⟩ := F; exact ⟨c, A, r0, r1, r2, fun j hj => by rw [r3 j hj, q j hj]⟩
theorem own_Ra.new {k : ClassId} {z : Int32} (A : Arr Z h a (newA k (.array ty) z) (.array ty)) (O : OvrA Z k ty C) (hz : ¬ z < 0) (hn : z.toNatClampNeg = n) : own_Ra Z h a ty C n (fun _ => .null) := by
  refine ⟨_, A, O, (sz_new _ _ _).trans hn, hn ▸ (back32 hz).2, fun j hj => ?_⟩
  simp [newA, hn, hj, defaultValue]
theorem own_Ra.set (F : own_Ra Z h a ty C n f) (W : Wr h h' a i v) : own_Ra Z h' a ty C n (fun q => if q = i then v else f q) := by
  obtain ⟨c, A, r0, r1, r2, r3⟩ := F
  refine ⟨_, A.same W, r0, (sz_set _ _ _).trans r1, r2, fun j hj => ?_⟩
  have e : (c.setSlot i v).slots = c.slots.setIfInBounds i v := rfl
  rw [e, Array.getElem?_setIfInBounds]
  by_cases q : i = j
  · subst q
    simp [r1, hj]
  · have q' : ¬ j = i := fun z => q z.symm
    simp [q, q', r3 j hj]
end OwnRef
section OwnRefSteps
variable {p : Program} {l : Launch} {e : Env} {R : Room} {s : State} {m : MethodId} {args : Array Value} {below : List Frame} {meth : Method} {c : Code} {T : State} {locs : List Loc} {cells slots : Nat} {Z : State} {h : Heap} {a y : Addr} {ty : FieldType} {C : String} {n i : Nat} {f : Nat → Value} {v : Value}
theorem own_aastore (X : Stand p l e R s m args below meth c T locs cells slots) (hx : p.tables.exec = Jvm.exec) (hZ : Z.Warmed39 s.vm) (eT : T.heap = h) (F : own_Ra Z h a ty C n f) (E : Exa Z h y C) {j : Int32} (h1 : ¬ j < 0) (h2 : j.toNatClampNeg = i) (h3 : i < n)
    {g : JFrame} (hg : g.method = m) {rest : List Value} (hs : g.stack = .ref y :: .int j :: .ref a :: rest) (hd : decode c.code g.pc = .ok (.aastore, 1)) :
    ∃ T' h', Stand p l e R s m args below meth c T' (locs ++ [⟨a, i⟩]) cells slots ∧ T'.heap = h' ∧ Wr h h' a i (.ref y) ∧ own_Ra Z h' a ty C n (fun q => if q = i then .ref y else f q) ∧ ∀ target, Steps p.tables e below (T'.setTop { g with pc := g.pc + 1, stack := rest }) target → Steps p.tables e below (T.setTop g) target := by
  have F0 := F
  obtain ⟨cl, A, r0, r1, r2, r3⟩ := F
  obtain ⟨T', h', X', e', W', st'⟩ := stR X hx hZ eT A (own_in r1 h1 h2 h3) rfl (Sto.ofVA A rfl r0 (Ins.self E)) hg hs hd
  rw [h2] at X' W'
  exact ⟨T', h', X', e', W', F0.set W', st'⟩
end OwnRefSteps

def own_BI (Z : State) (h : Heap) (b mg : Addr) (sg : Int32) (n : Nat) (f : Nat → Int32) : Prop := Exa Z h b "java/math/BigInteger" ∧ Fld Z h b "java/math/BigInteger" "signum" "I" (.int sg) ∧ Fld Z h b "java/math/BigInteger" "mag" "[I" (.ref mg) ∧ own_Av Z h mg .int n (fun q => .int (f q))
def own_w4 (w0 w1 w2 w3 : Int32) : Nat → Int32 := fun q => if q = 0 then w0 else if q = 1 then w1 else if q = 2 then w2 else w3
def own_ab (a : Int64) : Int64 := if a < 0 then -a else a
def own_hi (a : Int64) : Int32 := ((((own_ab a).toUInt64 >>> ((32 : Int32) &&& 0x3f).toInt64.toUInt64).toInt64).toInt32)
def own_sg (a : Int64) : Int32 := if a = 0 then 0 else if a < 0 then -1 else 1
def own_n (a : Int64) : Nat := if a = 0 then 0 else if own_hi a = 0 then 1 else 2
def own_f (a : Int64) : Nat → Int32 := if own_hi a = 0 then (fun _ => (own_ab a).toInt32) else fun q => if q = 0 then own_hi a else (own_ab a).toInt32
theorem own_n_one {a : Int64} (h1 : ¬ a = 0) (h2 : own_hi a = 0) : own_n a = 1 := by unfold own_n; rw [if_neg h1, if_pos h2]
theorem own_n_two {a : Int64} (h1 : ¬ a = 0) (h2 : ¬ own_hi a = 0) : own_n a = 2 := by unfold own_n; rw [if_neg h1, if_neg h2]

def own_sh (s : Int64) : Int64 := ((s.toUInt64 >>> ((32 : Int32) &&& 0x3f).toInt64.toUInt64).toInt64)
def own_u (x : Int32) : Int64 := x.toInt64 &&& 4294967295
def own_ad1 (f : Nat → Int32) : Nat → Int32 := own_w4 1073741823 (-1) (if own_sh (own_u 1 + own_u (f 0)) = 0 then 0 else 1) (own_u 1 + own_u (f 0)).toInt32
def own_s1 (f : Nat → Int32) : Int64 := own_u 1 + own_u (f 1) + own_sh 0
def own_s2 (f : Nat → Int32) : Int64 := own_u 0 + own_u (f 0) + own_sh (own_s1 f)
def own_ad2 (f : Nat → Int32) : Nat → Int32 := if own_sh (own_s2 f) = 0 then own_w4 1073741823 (-1) (own_s2 f).toInt32 (own_s1 f).toInt32 else own_w4 1073741824 0 (own_s2 f).toInt32 (own_s1 f).toInt32

def own_sr (s : Int64) : Int64 := (s >>> ((32 : Int32) &&& 0x3f).toInt64)
def own_e1 (x : Int32) : Int64 := own_u 1 - own_u x + own_sr 0
def own_e2 (f : Nat → Int32) : Int64 := own_u 0 - own_u (f 0) + own_sr (own_e1 (f 1))
def own_sb1 (f : Nat → Int32) : Nat → Int32 := if own_sr (own_e1 (f 0)) = 0 then own_w4 1073741823 (-1) 0 (own_e1 (f 0)).toInt32 else own_w4 1073741823 (-2) (-1) (own_e1 (f 0)).toInt32
def own_sb2 (f : Nat → Int32) : Nat → Int32 := if own_sr (own_e2 f) = 0 then own_w4 1073741823 (-1) (own_e2 f).toInt32 (own_e1 (f 1)).toInt32 else own_w4 1073741823 (-2) (own_e2 f).toInt32 (own_e1 (f 1)).toInt32

theorem own_sb1_0 (f : Nat → Int32) : ¬ own_sb1 f 0 = 0 := by
  unfold own_sb1
  by_cases z : own_sr (own_e1 (f 0)) = 0
  · rw [if_pos z]; show ¬ (1073741823 : Int32) = 0; decide
  · rw [if_neg z]; show ¬ (1073741823 : Int32) = 0; decide
theorem own_sb2_0 (f : Nat → Int32) : ¬ own_sb2 f 0 = 0 := by
  unfold own_sb2
  by_cases z : own_sr (own_e2 f) = 0
  · rw [if_pos z]; show ¬ (1073741823 : Int32) = 0; decide
  · rw [if_neg z]; show ¬ (1073741823 : Int32) = 0; decide

def own_Cc (Z : State) (h : Heap) (nm : String) (sg : Int32) : Prop := ∃ (pa : Addr) (pf : Nat → Value), Sta Z h "java/math/BigInteger" nm "[Ljava/math/BigInteger;" (.ref pa) ∧ own_Av Z h pa (.object "java/math/BigInteger") 17 pf ∧ ∀ q, 1 ≤ q → q ≤ 16 → ∃ b mg, pf q = .ref b ∧ own_BI Z h b mg sg 1 (fun _ => Int32.ofNat q)
def own_Cs (Z : State) (h : Heap) : Prop := (∃ z mz, Sta Z h "java/math/BigInteger" "ZERO" "Ljava/math/BigInteger;" (.ref z) ∧ own_BI Z h z mz 0 0 (fun _ => 0)) ∧ own_Cc Z h "posConst" 1 ∧ own_Cc Z h "negConst" (-1)
theorem own_BI.sm {Z : State} {h h' : Heap} {b mg : Addr} {sg : Int32} {n : Nat} {f : Nat → Int32} (F : own_BI Z h b mg sg n f) (S : ∀ (x : Addr) (c : Cell), h[x]? = some c → h'[x]? = some c) : own_BI Z h' b mg sg n f := by
  obtain ⟨F1, F2, F3, F4⟩ := F
  refine ⟨?_, ?_, ?_, ?_⟩
  · obtain ⟨cell, k, h1, r⟩ := F1; exact ⟨cell, k, S _ _ h1, r⟩
  · obtain ⟨cell, cf, k, i, f, h1, r⟩ := F2; exact ⟨cell, cf, k, i, f, S _ _ h1, r⟩
  · obtain ⟨cell, cf, k, i, f, h1, r⟩ := F3; exact ⟨cell, cf, k, i, f, S _ _ h1, r⟩
  · obtain ⟨c, A, r⟩ := F4; exact ⟨c, ⟨S _ c A.1, A.2⟩, r⟩
theorem own_StaS {Z : State} {h h' : Heap} {C n d : String} {w : Value} (F : Sta Z h C n d w) (S : ∀ (x : Addr) (c : Cell), h[x]? = some c → h'[x]? = some c) : Sta Z h' C n d w := by
  obtain ⟨cf, i, k, f, st, cell, h1, h2, h3, h4, h5, r⟩ := F; exact ⟨cf, i, k, f, st, cell, h1, h2, h3, h4, S _ _ h5, r⟩
theorem own_Cs.sm {Z : State} {h h' : Heap} (F : own_Cs Z h) (S : ∀ (x : Addr) (c : Cell), h[x]? = some c → h'[x]? = some c) : own_Cs Z h' := by
  obtain ⟨⟨z, mz, s1, b1⟩, ⟨pa, pf, s2, a2, b2⟩, ⟨na, nf, s3, a3, b3⟩⟩ := F
  refine ⟨⟨z, mz, own_StaS s1 S, b1.sm S⟩, ⟨pa, pf, own_StaS s2 S, ?_, fun q h1 h2 => ?_⟩, ⟨na, nf, own_StaS s3 S, ?_, fun q h1 h2 => ?_⟩⟩
  · obtain ⟨c, A, r⟩ := a2; exact ⟨c, ⟨S _ c A.1, A.2⟩, r⟩
  · obtain ⟨b, mg, e, H⟩ := b2 q h1 h2; exact ⟨b, mg, e, H.sm S⟩
  · obtain ⟨c, A, r⟩ := a3; exact ⟨c, ⟨S _ c A.1, A.2⟩, r⟩
  · obtain ⟨b, mg, e, H⟩ := b3 q h1 h2; exact ⟨b, mg, e, H.sm S⟩
theorem own_Cs.keep0 {Z : State} {h h' : Heap} (F : own_Cs Z h) (K : Keep h h' []) : own_Cs Z h' := F.sm fun x c q => K.2.1 x c q nin0
theorem own_BI.cast {Z : State} {h : Heap} {b mg : Addr} {sg sg' : Int32} {n n' : Nat} {f f' : Nat → Int32} (F : own_BI Z h b mg sg n f) (h1 : sg = sg') (h2 : n = n') (h3 : f = f') : own_BI Z h b mg sg' n' f' := by subst h1 h2 h3; exact F
theorem own_smP (k : Nat) (h1 : 1 ≤ k) (h2 : k ≤ 16) : (1 : Int32) = own_sg (Int64.ofNat k) ∧ 1 = own_n (Int64.ofNat k) ∧ own_hi (Int64.ofNat k) = 0 ∧ (own_ab (Int64.ofNat k)).toInt32 = Int32.ofNat k ∧ (Int64.ofNat k).toInt32 = Int32.ofNat k := by
  have t : ∀ j : Fin 16, (1 : Int32) = own_sg (Int64.ofNat (j.val + 1)) ∧ 1 = own_n (Int64.ofNat (j.val + 1)) ∧ own_hi (Int64.ofNat (j.val + 1)) = 0 ∧ (own_ab (Int64.ofNat (j.val + 1))).toInt32 = Int32.ofNat (j.val + 1) ∧ (Int64.ofNat (j.val + 1)).toInt32 = Int32.ofNat (j.val + 1) := by decide +kernel
  have := t ⟨k - 1, by omega⟩
  simpa [show k - 1 + 1 = k by omega] using this
theorem own_smM (k : Nat) (h1 : 1 ≤ k) (h2 : k ≤ 16) : (-1 : Int32) = own_sg (-Int64.ofNat k) ∧ 1 = own_n (-Int64.ofNat k) ∧ own_hi (-Int64.ofNat k) = 0 ∧ (own_ab (-Int64.ofNat k)).toInt32 = Int32.ofNat k ∧ (-(-Int64.ofNat k)).toInt32 = Int32.ofNat k := by
  have t : ∀ j : Fin 16, (-1 : Int32) = own_sg (-Int64.ofNat (j.val + 1)) ∧ 1 = own_n (-Int64.ofNat (j.val + 1)) ∧ own_hi (-Int64.ofNat (j.val + 1)) = 0 ∧ (own_ab (-Int64.ofNat (j.val + 1))).toInt32 = Int32.ofNat (j.val + 1) ∧ (-(-Int64.ofNat (j.val + 1))).toInt32 = Int32.ofNat (j.val + 1) := by decide +kernel
  have := t ⟨k - 1, by omega⟩
  simpa [show k - 1 + 1 = k by omega] using this
theorem own_exP {a : Int64} (h1 : 0 < a) (h2 : ¬ 16 < a) : ∃ k : Nat, 1 ≤ k ∧ k ≤ 16 ∧ a = Int64.ofNat k := by
  rw [Int64.lt_iff_toInt_lt] at h1 h2
  have e0 : (0 : Int64).toInt = 0 := rfl
  have e16 : (16 : Int64).toInt = 16 := rfl
  refine ⟨a.toInt.toNat, by omega, by omega, ?_⟩
  rw [← Int64.toInt_inj, Int64.toInt_ofNat_of_lt (by omega)]; omega
theorem own_exM {a : Int64} (h1 : a < 0) (h2 : ¬ a < -16) : ∃ k : Nat, 1 ≤ k ∧ k ≤ 16 ∧ a = -Int64.ofNat k := by
  rw [Int64.lt_iff_toInt_lt] at h1 h2
  have e0 : (0 : Int64).toInt = 0 := rfl
  have e16 : (-16 : Int64).toInt = -16 := rfl
  refine ⟨(-a.toInt).toNat, by omega, by omega, ?_⟩
  have t : ∀ j : Fin 17, (-Int64.ofNat j.val).toInt = -(j.val : Int) := by decide +kernel
  rw [← Int64.toInt_inj, t ⟨(-a.toInt).toNat, by omega⟩]; simp only; omega
theorem own_f_one {a : Int64} {k : Nat} (h1 : own_hi a = 0) (h2 : (own_ab a).toInt32 = Int32.ofNat k) : (fun _ : Nat => Int32.ofNat k) = own_f a := by unfold own_f; rw [if_pos h1, h2]

theorem own_neg {a : Int64} (h1 : ¬ a = 0) (h2 : ¬ 0 < a) : a < 0 := by
  rw [Int64.lt_iff_toInt_lt] at *
  rw [← Int64.toInt_inj] at h1
  omega
theorem own_npos {a : Int64} (h1 : 0 < a) : ¬ a < 0 := by
  rw [Int64.lt_iff_toInt_lt] at *
  omega

theorem own_fM : own_f 9223372036854775807 = (fun q => if q = 0 then 2147483647 else -1) := by
  unfold own_f
  rw [if_neg (by decide +kernel), show own_hi 9223372036854775807 = 2147483647 by decide +kernel, show (own_ab 9223372036854775807).toInt32 = -1 by decide +kernel]
def own_sum (a : Int64) : Nat → Int32 := if a = 0 then (own_w4 1073741823 (-1) 0 1) else if 0 < a then (if own_hi a = 0 then own_ad1 (own_f a) else own_ad2 (own_f a)) else (if own_hi a = 0 then own_sb1 (own_f a) else own_sb2 (own_f a))
theorem own_sg_z {a : Int64} (h : a = 0) : own_sg a = 0 := by unfold own_sg; rw [if_pos h]
theorem own_sg_p {a : Int64} (h : ¬ a = 0) (h1 : 0 < a) : own_sg a = 1 := by unfold own_sg; rw [if_neg h, if_neg (own_npos h1)]
theorem own_sg_m {a : Int64} (h : ¬ a = 0) (h1 : ¬ 0 < a) : own_sg a = -1 := by unfold own_sg; rw [if_neg h, if_pos (own_neg h h1)]
theorem own_n_z {a : Int64} (h : a = 0) : own_n a = 0 := by unfold own_n; rw [if_pos h]
theorem own_sum_z {a : Int64} (h : a = 0) : (own_w4 1073741823 (-1) 0 1) = own_sum a := by unfold own_sum; rw [if_pos h]
theorem own_sum_p1 {a : Int64} (h : ¬ a = 0) (h1 : 0 < a) (h2 : own_hi a = 0) : own_ad1 (own_f a) = own_sum a := by unfold own_sum; rw [if_neg h, if_pos h1, if_pos h2]
theorem own_sum_p2 {a : Int64} (h : ¬ a = 0) (h1 : 0 < a) (h2 : ¬ own_hi a = 0) : own_ad2 (own_f a) = own_sum a := by unfold own_sum; rw [if_neg h, if_pos h1, if_neg h2]
theorem own_sum_m1 {a : Int64} (h : ¬ a = 0) (h1 : ¬ 0 < a) (h2 : own_hi a = 0) : own_sb1 (own_f a) = own_sum a := by unfold own_sum; rw [if_neg h, if_neg h1, if_pos h2]
theorem own_sum_m2 {a : Int64} (h : ¬ a = 0) (h1 : ¬ 0 < a) (h2 : ¬ own_hi a = 0) : own_sb2 (own_f a) = own_sum a := by unfold own_sum; rw [if_neg h, if_neg h1, if_neg h2]

theorem own_lenS {Z : State} {args : Array Value} {t : Jvm.Term} {n : Int32} {a : Addr} {c : Cell} (h : (Jvm.Cond.eq (Jvm.Term.length t) (Jvm.Term.int n)).before args Z = true) (ht : t.eval args Z none [] Z = some (.ref a)) (hc : Z.heap[a]? = some c) : c.slots.size = n.toNatClampNeg := by
  have h1 := Jvm.Cond.eq_int (b := Jvm.Term.int n) h rfl
  simp only [Jvm.Term.eval, Option.bind_eq_bind] at h1
  simp [ht] at h1
  obtain ⟨cell, hcell, h2⟩ := Option.bind_eq_some_iff.mp h1
  by_cases hn : cell.slots.size < 2147483648
  · rw [if_pos hn] at h2
    have h3 : Int32.ofNat cell.slots.size = n := by cases h2; rfl
    cases (Jvm.State.arrayAt?_spec hcell).1.symm.trans hc
    rw [← h3, (own_nat32 hn).1]
  · rw [if_neg hn] at h2; cases h2
theorem own_biS {Z : State} {args : Array Value} {t : Jvm.Term} {sg k : Int32} (hx : (Jvm.Cond.exactly t "java/math/BigInteger").before args Z = true) (hs : (Jvm.Cond.eq (Jvm.Term.field t "java/math/BigInteger" "signum" "I") (Jvm.Term.int sg)).before args Z = true) (ha : (Jvm.Cond.arrayOf (Jvm.Term.field t "java/math/BigInteger" "mag" "[I") .int).before args Z = true) (hl : (Jvm.Cond.eq (Jvm.Term.length (Jvm.Term.field t "java/math/BigInteger" "mag" "[I")) (Jvm.Term.int 1)).before args Z = true) (he : (Jvm.Cond.eq (Jvm.Term.elem (Jvm.Term.field t "java/math/BigInteger" "mag" "[I") (Jvm.Term.int 0)) (Jvm.Term.int k)).before args Z = true) : ∃ b mg, t.eval args Z none [] Z = some (.ref b) ∧ own_BI Z Z.heap b mg sg 1 (fun _ => k) := by
  obtain ⟨b, _, _, _, e1, -⟩ := Jvm.Cond.exactly_spec hx
  have hs1 := Jvm.Cond.eq_int (b := Jvm.Term.int sg) hs rfl
  have hl1 := Jvm.Cond.eq_int (b := Jvm.Term.int 1) hl rfl
  obtain ⟨mg, cm, f1, f2, -⟩ := Jvm.Term.length_spec hl1
  obtain ⟨c, A⟩ := Jvm.RoadKit.Arr.start f1 (Jvm.Cond.before_iff.mp ha)
  have he1 := Jvm.Cond.eq_int (b := Jvm.Term.int k) he rfl
  obtain ⟨cell2, g1, -, g3⟩ := Jvm.Lib.elem_at he1 f1 rfl
  cases A.1.symm.trans g1
  refine ⟨b, mg, e1, Jvm.RoadKit.Exa.start e1 (Jvm.Cond.before_iff.mp hx), Jvm.RoadKit.Fld.start ?_, Jvm.RoadKit.Fld.start ?_, c, A, (own_lenS hl f1 A.1).trans (by decide), by decide, fun j hj => ?_⟩
  · simpa [Jvm.Term.eval, e1] using hs1
  · simpa [Jvm.Term.eval, e1] using f1
  · have z : j = 0 := by omega
    subst z; exact g3
theorem own_zS {Z : State} {args : Array Value} (hi : (Jvm.Cond.initializedFor "java/math/BigInteger" "ZERO" "Ljava/math/BigInteger;").before args Z = true) (hx : (Jvm.Cond.exactly (Jvm.Term.static "java/math/BigInteger" "ZERO" "Ljava/math/BigInteger;") "java/math/BigInteger").before args Z = true) (hs : (Jvm.Cond.eq (Jvm.Term.field (Jvm.Term.static "java/math/BigInteger" "ZERO" "Ljava/math/BigInteger;") "java/math/BigInteger" "signum" "I") (Jvm.Term.int 0)).before args Z = true) (ha : (Jvm.Cond.arrayOf (Jvm.Term.field (Jvm.Term.static "java/math/BigInteger" "ZERO" "Ljava/math/BigInteger;") "java/math/BigInteger" "mag" "[I") .int).before args Z = true) (hl : (Jvm.Cond.eq (Jvm.Term.length (Jvm.Term.field (Jvm.Term.static "java/math/BigInteger" "ZERO" "Ljava/math/BigInteger;") "java/math/BigInteger" "mag" "[I")) (Jvm.Term.int 0)).before args Z = true) : ∃ z mz, Sta Z Z.heap "java/math/BigInteger" "ZERO" "Ljava/math/BigInteger;" (.ref z) ∧ own_BI Z Z.heap z mz 0 0 (fun _ => 0) := by
  obtain ⟨b, _, _, _, e1, -⟩ := Jvm.Cond.exactly_spec hx
  have hs1 := Jvm.Cond.eq_int (b := Jvm.Term.int 0) hs rfl
  have hl1 := Jvm.Cond.eq_int (b := Jvm.Term.int 0) hl rfl
  obtain ⟨mg, cm, f1, f2, -⟩ := Jvm.Term.length_spec hl1
  obtain ⟨c, A⟩ := Jvm.RoadKit.Arr.start f1 (Jvm.Cond.before_iff.mp ha)
  refine ⟨b, mg, Jvm.RoadKit.Sta.start e1 (Or.inl hi), Jvm.RoadKit.Exa.start e1 (Jvm.Cond.before_iff.mp hx), Jvm.RoadKit.Fld.start ?_, Jvm.RoadKit.Fld.start ?_, c, A, (own_lenS hl f1 A.1).trans (by decide), by decide, fun j hj => absurd hj (Nat.not_lt_zero j)⟩
  · unfold Jvm.Term.eval at hs1; rw [e1] at hs1; exact hs1
  · unfold Jvm.Term.eval at f1; rw [e1] at f1; exact f1
def own_el (args : Array Value) (Z : State) (nm : String) (sg j : Int32) : Prop := (Jvm.Cond.exactly (Jvm.Term.elem (Jvm.Term.static "java/math/BigInteger" nm "[Ljava/math/BigInteger;") (Jvm.Term.int j)) "java/math/BigInteger").before args Z = true ∧ (Jvm.Cond.eq (Jvm.Term.field (Jvm.Term.elem (Jvm.Term.static "java/math/BigInteger" nm "[Ljava/math/BigInteger;") (Jvm.Term.int j)) "java/math/BigInteger" "signum" "I") (Jvm.Term.int sg)).before args Z = true ∧ (Jvm.Cond.arrayOf (Jvm.Term.field (Jvm.Term.elem (Jvm.Term.static "java/math/BigInteger" nm "[Ljava/math/BigInteger;") (Jvm.Term.int j)) "java/math/BigInteger" "mag" "[I") .int).before args Z = true ∧ (Jvm.Cond.eq (Jvm.Term.length (Jvm.Term.field (Jvm.Term.elem (Jvm.Term.static "java/math/BigInteger" nm "[Ljava/math/BigInteger;") (Jvm.Term.int j)) "java/math/BigInteger" "mag" "[I")) (Jvm.Term.int 1)).before args Z = true ∧ (Jvm.Cond.eq (Jvm.Term.elem (Jvm.Term.field (Jvm.Term.elem (Jvm.Term.static "java/math/BigInteger" nm "[Ljava/math/BigInteger;") (Jvm.Term.int j)) "java/math/BigInteger" "mag" "[I") (Jvm.Term.int 0)) (Jvm.Term.int j)).before args Z = true
theorem own_ccS {Z : State} {args : Array Value} {nm : String} {sg : Int32} (hi : (Jvm.Cond.initializedFor "java/math/BigInteger" nm "[Ljava/math/BigInteger;").before args Z = true) (ha : (Jvm.Cond.arrayOf (Jvm.Term.static "java/math/BigInteger" nm "[Ljava/math/BigInteger;") (.object "java/math/BigInteger")).before args Z = true) (hl : (Jvm.Cond.eq (Jvm.Term.length (Jvm.Term.static "java/math/BigInteger" nm "[Ljava/math/BigInteger;")) (Jvm.Term.int 17)).before args Z = true) (he : ∀ q, 1 ≤ q → q ≤ 16 → own_el args Z nm sg (Int32.ofNat q)) : own_Cc Z Z.heap nm sg := by
  have hl1 := Jvm.Cond.eq_int (b := Jvm.Term.int 17) hl rfl
  obtain ⟨pa, cm, f1, f2, -⟩ := Jvm.Term.length_spec hl1
  obtain ⟨c, A⟩ := Jvm.RoadKit.Arr.start f1 (Jvm.Cond.before_iff.mp ha)
  have sz : c.slots.size = 17 := (own_lenS hl f1 A.1).trans (by decide)
  refine ⟨pa, fun q => (c.slots[q]?).getD .null, Jvm.RoadKit.Sta.start f1 (Or.inl hi), ⟨c, A, sz, by decide, fun j hj => ?_⟩, fun q h1 h2 => ?_⟩
  · have z : j < c.slots.size := by omega
    simp [z]
  · obtain ⟨x1, x2, x3, x4, x5⟩ := he q h1 h2
    obtain ⟨b, mg, e1, H⟩ := own_biS x1 x2 x3 x4 x5
    obtain ⟨cell, g1, -, g3⟩ := Jvm.Lib.elem_at e1 f1 rfl
    cases A.1.symm.trans g1
    refine ⟨b, mg, ?_, H⟩
    rw [(own_nat32 (show q < 2 ^ 31 by omega)).1] at g3
    show (c.slots[q]?).getD .null = _
    rw [g3]; rfl

theorem own_pn0 : plainName "java/lang/Number" = true := by first | (simp [plainName, overriddenIn]; done) | decide +kernel
theorem own_ef15_R (m : MethodId) (x0 : Addr) : entryFrame m #[.ref x0] 1 = mkF m 0 #[rv x0] [] := by first | (simp [entryFrame, mkF, argsToLocals, Value.category]; done) | rfl
theorem d15_0 : decode jdk_18_method_1_code 0 = .ok (.aload_n 0, 1) := by decide +kernel
theorem d15_1 : decode jdk_18_method_1_code 1 = .ok (.invokespecial 1, 3) := by decide +kernel
theorem d15_4 : decode jdk_18_method_1_code 4 = .ok (.return_, 1) := by decide +kernel
theorem own_ef11_JJ (m : MethodId) (x0 : Int64) (x1 : Int64) : entryFrame m #[.long x0, .long x1] 20 = mkF m 0 #[.val (.long x0), .second, .val (.long x1), .second, .unset, .unset, .unset, .unset, .unset, .unset, .unset, .unset, .unset, .unset, .unset, .unset, .unset, .unset, .unset, .unset] [] := by first | (simp [entryFrame, mkF, argsToLocals, Value.category]; done) | rfl
theorem d11_0 : decode jdk_29_method_45_code 0 = .ok (.lload_n 0, 1) := by decide +kernel
theorem d11_1 : decode jdk_29_method_45_code 1 = .ok (.bipush 32, 2) := by decide +kernel
theorem d11_3 : decode jdk_29_method_45_code 3 = .ok (.lshr, 1) := by decide +kernel
theorem d11_4 : decode jdk_29_method_45_code 4 = .ok (.lstore 4, 2) := by decide +kernel
theorem d11_6 : decode jdk_29_method_45_code 6 = .ok (.lload_n 0, 1) := by decide +kernel
theorem d11_7 : decode jdk_29_method_45_code 7 = .ok (.ldc2_w 138, 3) := by decide +kernel
theorem d11_10 : decode jdk_29_method_45_code 10 = .ok (.land, 1) := by decide +kernel
theorem d11_11 : decode jdk_29_method_45_code 11 = .ok (.lstore 6, 2) := by decide +kernel
theorem d11_13 : decode jdk_29_method_45_code 13 = .ok (.lload_n 2, 1) := by decide +kernel
theorem d11_14 : decode jdk_29_method_45_code 14 = .ok (.bipush 32, 2) := by decide +kernel
theorem d11_16 : decode jdk_29_method_45_code 16 = .ok (.lshr, 1) := by decide +kernel
theorem d11_17 : decode jdk_29_method_45_code 17 = .ok (.lstore 8, 2) := by decide +kernel
theorem d11_19 : decode jdk_29_method_45_code 19 = .ok (.lload_n 2, 1) := by decide +kernel
theorem d11_20 : decode jdk_29_method_45_code 20 = .ok (.ldc2_w 138, 3) := by decide +kernel
theorem d11_23 : decode jdk_29_method_45_code 23 = .ok (.land, 1) := by decide +kernel
theorem d11_24 : decode jdk_29_method_45_code 24 = .ok (.lstore 10, 2) := by decide +kernel
theorem d11_26 : decode jdk_29_method_45_code 26 = .ok (.lload 6, 2) := by decide +kernel
theorem d11_28 : decode jdk_29_method_45_code 28 = .ok (.lload 10, 2) := by decide +kernel
theorem d11_30 : decode jdk_29_method_45_code 30 = .ok (.lmul, 1) := by decide +kernel
theorem d11_31 : decode jdk_29_method_45_code 31 = .ok (.lstore 12, 2) := by decide +kernel
theorem d11_33 : decode jdk_29_method_45_code 33 = .ok (.lload 4, 2) := by decide +kernel
theorem d11_35 : decode jdk_29_method_45_code 35 = .ok (.lload 10, 2) := by decide +kernel
theorem d11_37 : decode jdk_29_method_45_code 37 = .ok (.lmul, 1) := by decide +kernel
theorem d11_38 : decode jdk_29_method_45_code 38 = .ok (.lload 12, 2) := by decide +kernel
theorem d11_40 : decode jdk_29_method_45_code 40 = .ok (.bipush 32, 2) := by decide +kernel
theorem d11_42 : decode jdk_29_method_45_code 42 = .ok (.lushr, 1) := by decide +kernel
theorem d11_43 : decode jdk_29_method_45_code 43 = .ok (.ladd, 1) := by decide +kernel
theorem d11_44 : decode jdk_29_method_45_code 44 = .ok (.lstore 14, 2) := by decide +kernel
theorem d11_46 : decode jdk_29_method_45_code 46 = .ok (.lload 14, 2) := by decide +kernel
theorem d11_48 : decode jdk_29_method_45_code 48 = .ok (.ldc2_w 138, 3) := by decide +kernel
theorem d11_51 : decode jdk_29_method_45_code 51 = .ok (.land, 1) := by decide +kernel
theorem d11_52 : decode jdk_29_method_45_code 52 = .ok (.lstore 16, 2) := by decide +kernel
theorem d11_54 : decode jdk_29_method_45_code 54 = .ok (.lload 14, 2) := by decide +kernel
theorem d11_56 : decode jdk_29_method_45_code 56 = .ok (.bipush 32, 2) := by decide +kernel
theorem d11_58 : decode jdk_29_method_45_code 58 = .ok (.lshr, 1) := by decide +kernel
theorem d11_59 : decode jdk_29_method_45_code 59 = .ok (.lstore 18, 2) := by decide +kernel
theorem d11_61 : decode jdk_29_method_45_code 61 = .ok (.lload 16, 2) := by decide +kernel
theorem d11_63 : decode jdk_29_method_45_code 63 = .ok (.lload 6, 2) := by decide +kernel
theorem d11_65 : decode jdk_29_method_45_code 65 = .ok (.lload 8, 2) := by decide +kernel
theorem d11_67 : decode jdk_29_method_45_code 67 = .ok (.lmul, 1) := by decide +kernel
theorem d11_68 : decode jdk_29_method_45_code 68 = .ok (.ladd, 1) := by decide +kernel
theorem d11_69 : decode jdk_29_method_45_code 69 = .ok (.lstore 16, 2) := by decide +kernel
theorem d11_71 : decode jdk_29_method_45_code 71 = .ok (.lload 4, 2) := by decide +kernel
theorem d11_73 : decode jdk_29_method_45_code 73 = .ok (.lload 8, 2) := by decide +kernel
theorem d11_75 : decode jdk_29_method_45_code 75 = .ok (.lmul, 1) := by decide +kernel
theorem d11_76 : decode jdk_29_method_45_code 76 = .ok (.lload 18, 2) := by decide +kernel
theorem d11_78 : decode jdk_29_method_45_code 78 = .ok (.ladd, 1) := by decide +kernel
theorem d11_79 : decode jdk_29_method_45_code 79 = .ok (.lload 16, 2) := by decide +kernel
theorem d11_81 : decode jdk_29_method_45_code 81 = .ok (.bipush 32, 2) := by decide +kernel
theorem d11_83 : decode jdk_29_method_45_code 83 = .ok (.lshr, 1) := by decide +kernel
theorem d11_84 : decode jdk_29_method_45_code 84 = .ok (.ladd, 1) := by decide +kernel
theorem d11_85 : decode jdk_29_method_45_code 85 = .ok (.lreturn, 1) := by decide +kernel
theorem own_pn1 : plainName "java/math/BigInteger" = true := by first | (simp [plainName, overriddenIn]; done) | decide +kernel
theorem own_ef22_R (m : MethodId) (x0 : Addr) : entryFrame m #[.ref x0] 3 = mkF m 0 #[rv x0, .unset, .unset] [] := by first | (simp [entryFrame, mkF, argsToLocals, Value.category]; done) | rfl
theorem d22_0 : decode jdk_2097_method_140_code 0 = .ok (.aload_n 0, 1) := by decide +kernel
theorem d22_1 : decode jdk_2097_method_140_code 1 = .ok (.arraylength, 1) := by decide +kernel
theorem d22_2 : decode jdk_2097_method_140_code 2 = .ok (.istore_n 1, 1) := by decide +kernel
theorem d22_3 : decode jdk_2097_method_140_code 3 = .ok (.iconst 0, 1) := by decide +kernel
theorem d22_4 : decode jdk_2097_method_140_code 4 = .ok (.istore_n 2, 1) := by decide +kernel
theorem d22_5 : decode jdk_2097_method_140_code 5 = .ok (.iload_n 2, 1) := by decide +kernel
theorem d22_6 : decode jdk_2097_method_140_code 6 = .ok (.iload_n 1, 1) := by decide +kernel
theorem d22_7 : decode jdk_2097_method_140_code 7 = .ok (.if_icmp .ge 15, 3) := by decide +kernel
theorem d22_10 : decode jdk_2097_method_140_code 10 = .ok (.aload_n 0, 1) := by decide +kernel
theorem d22_11 : decode jdk_2097_method_140_code 11 = .ok (.iload_n 2, 1) := by decide +kernel
theorem d22_12 : decode jdk_2097_method_140_code 12 = .ok (.iaload, 1) := by decide +kernel
theorem d22_13 : decode jdk_2097_method_140_code 13 = .ok (.ifCond .ne 9, 3) := by decide +kernel
theorem d22_22 : decode jdk_2097_method_140_code 22 = .ok (.iload_n 2, 1) := by decide +kernel
theorem d22_23 : decode jdk_2097_method_140_code 23 = .ok (.ifCond .ne 7, 3) := by decide +kernel
theorem d22_26 : decode jdk_2097_method_140_code 26 = .ok (.aload_n 0, 1) := by decide +kernel
theorem d22_27 : decode jdk_2097_method_140_code 27 = .ok (.goto 9, 3) := by decide +kernel
theorem d22_36 : decode jdk_2097_method_140_code 36 = .ok (.areturn, 1) := by decide +kernel
theorem own_ef23_RRI (m : MethodId) (x0 : Addr) (x1 : Addr) (x2 : Int32) : entryFrame m #[.ref x0, .ref x1, .int x2] 3 = mkF m 0 #[rv x0, rv x1, iv x2] [] := by first | (simp [entryFrame, mkF, argsToLocals, Value.category]; done) | rfl
theorem d23_0 : decode jdk_2097_method_25_code 0 = .ok (.aload_n 0, 1) := by decide +kernel
theorem d23_1 : decode jdk_2097_method_25_code 1 = .ok (.invokespecial 3, 3) := by decide +kernel
theorem own_pd0 : parseMethodDescriptor "()V" = some ⟨[], none⟩ := by decide +kernel
theorem d23_4 : decode jdk_2097_method_25_code 4 = .ok (.aload_n 0, 1) := by decide +kernel
theorem d23_5 : decode jdk_2097_method_25_code 5 = .ok (.aload_n 1, 1) := by decide +kernel
theorem d23_6 : decode jdk_2097_method_25_code 6 = .ok (.arraylength, 1) := by decide +kernel
theorem d23_7 : decode jdk_2097_method_25_code 7 = .ok (.ifCond .ne 7, 3) := by decide +kernel
theorem d23_14 : decode jdk_2097_method_25_code 14 = .ok (.iload_n 2, 1) := by decide +kernel
theorem d23_15 : decode jdk_2097_method_25_code 15 = .ok (.putfield 32, 3) := by decide +kernel
theorem d23_18 : decode jdk_2097_method_25_code 18 = .ok (.aload_n 0, 1) := by decide +kernel
theorem d23_19 : decode jdk_2097_method_25_code 19 = .ok (.aload_n 1, 1) := by decide +kernel
theorem d23_20 : decode jdk_2097_method_25_code 20 = .ok (.putfield 28, 3) := by decide +kernel
theorem d23_23 : decode jdk_2097_method_25_code 23 = .ok (.aload_n 0, 1) := by decide +kernel
theorem d23_24 : decode jdk_2097_method_25_code 24 = .ok (.getfield 28, 3) := by decide +kernel
theorem d23_27 : decode jdk_2097_method_25_code 27 = .ok (.arraylength, 1) := by decide +kernel
theorem d23_28 : decode jdk_2097_method_25_code 28 = .ok (.ldc 43, 2) := by decide +kernel
theorem d23_30 : decode jdk_2097_method_25_code 30 = .ok (.if_icmp .lt 7, 3) := by decide +kernel
theorem d23_37 : decode jdk_2097_method_25_code 37 = .ok (.return_, 1) := by decide +kernel
theorem own_pn2 : plainName "java/util/Objects" = true := by first | (simp [plainName, overriddenIn]; done) | decide +kernel
theorem own_ef20_R (m : MethodId) (x0 : Addr) : entryFrame m #[.ref x0] 1 = mkF m 0 #[rv x0] [] := by first | (simp [entryFrame, mkF, argsToLocals, Value.category]; done) | rfl
theorem d20_0 : decode jdk_31_method_10_code 0 = .ok (.aload_n 0, 1) := by decide +kernel
theorem d20_1 : decode jdk_31_method_10_code 1 = .ok (.ifnonnull 11, 3) := by decide +kernel
theorem d20_12 : decode jdk_31_method_10_code 12 = .ok (.aload_n 0, 1) := by decide +kernel
theorem d20_13 : decode jdk_31_method_10_code 13 = .ok (.areturn, 1) := by decide +kernel
theorem own_ef19_RI (m : MethodId) (x0 : Addr) (x1 : Int32) : entryFrame m #[.ref x0, .int x1] 2 = mkF m 0 #[rv x0, iv x1] [] := by first | (simp [entryFrame, mkF, argsToLocals, Value.category]; done) | rfl
theorem d19_0 : decode jdk_2097_method_47_code 0 = .ok (.iload_n 1, 1) := by decide +kernel
theorem d19_1 : decode jdk_2097_method_47_code 1 = .ok (.ifCond .gt 4, 3) := by decide +kernel
theorem d19_5 : decode jdk_2097_method_47_code 5 = .ok (.aload_n 0, 1) := by decide +kernel
theorem d19_6 : decode jdk_2097_method_47_code 6 = .ok (.invokestatic 447, 3) := by decide +kernel
theorem own_pd1 : parseMethodDescriptor "(Ljava/lang/Object;)Ljava/lang/Object;" = some ⟨[(.object "java/lang/Object")], some (.object "java/lang/Object")⟩ := by decide +kernel
theorem d19_9 : decode jdk_2097_method_47_code 9 = .ok (.pop, 1) := by decide +kernel
theorem d19_10 : decode jdk_2097_method_47_code 10 = .ok (.iload_n 1, 1) := by decide +kernel
theorem d19_11 : decode jdk_2097_method_47_code 11 = .ok (.aload_n 0, 1) := by decide +kernel
theorem d19_12 : decode jdk_2097_method_47_code 12 = .ok (.arraylength, 1) := by decide +kernel
theorem d19_13 : decode jdk_2097_method_47_code 13 = .ok (.if_icmp .le 14, 3) := by decide +kernel
theorem d19_27 : decode jdk_2097_method_47_code 27 = .ok (.return_, 1) := by decide +kernel
theorem own_ef21_RIRIN (m : MethodId) (x0 : Addr) (x1 : Int32) (x2 : Addr) (x3 : Int32) : entryFrame m #[.ref x0, .int x1, .ref x2, .int x3, .null] 14 = mkF m 0 #[rv x0, iv x1, rv x2, iv x3, .val .null, .unset, .unset, .unset, .unset, .unset, .unset, .unset, .unset, .unset] [] := by first | (simp [entryFrame, mkF, argsToLocals, Value.category]; done) | rfl
theorem d21_0 : decode jdk_2097_method_46_code 0 = .ok (.iload_n 1, 1) := by decide +kernel
theorem d21_1 : decode jdk_2097_method_46_code 1 = .ok (.iconst 1, 1) := by decide +kernel
theorem d21_2 : decode jdk_2097_method_46_code 2 = .ok (.isub, 1) := by decide +kernel
theorem d21_3 : decode jdk_2097_method_46_code 3 = .ok (.istore 5, 2) := by decide +kernel
theorem d21_5 : decode jdk_2097_method_46_code 5 = .ok (.iload_n 3, 1) := by decide +kernel
theorem d21_6 : decode jdk_2097_method_46_code 6 = .ok (.iconst 1, 1) := by decide +kernel
theorem d21_7 : decode jdk_2097_method_46_code 7 = .ok (.isub, 1) := by decide +kernel
theorem d21_8 : decode jdk_2097_method_46_code 8 = .ok (.istore 6, 2) := by decide +kernel
theorem d21_10 : decode jdk_2097_method_46_code 10 = .ok (.aload 4, 2) := by decide +kernel
theorem d21_12 : decode jdk_2097_method_46_code 12 = .ok (.ifnull 12, 3) := by decide +kernel
theorem d21_24 : decode jdk_2097_method_46_code 24 = .ok (.iload_n 1, 1) := by decide +kernel
theorem d21_25 : decode jdk_2097_method_46_code 25 = .ok (.iload_n 3, 1) := by decide +kernel
theorem d21_26 : decode jdk_2097_method_46_code 26 = .ok (.iadd, 1) := by decide +kernel
theorem d21_27 : decode jdk_2097_method_46_code 27 = .ok (.newarray .int, 2) := by decide +kernel
theorem d21_29 : decode jdk_2097_method_46_code 29 = .ok (.astore 4, 2) := by decide +kernel
theorem d21_31 : decode jdk_2097_method_46_code 31 = .ok (.lconst 0, 1) := by decide +kernel
theorem d21_32 : decode jdk_2097_method_46_code 32 = .ok (.lstore 7, 2) := by decide +kernel
theorem d21_34 : decode jdk_2097_method_46_code 34 = .ok (.iload 6, 2) := by decide +kernel
theorem d21_36 : decode jdk_2097_method_46_code 36 = .ok (.istore 9, 2) := by decide +kernel
theorem d21_38 : decode jdk_2097_method_46_code 38 = .ok (.iload 6, 2) := by decide +kernel
theorem d21_40 : decode jdk_2097_method_46_code 40 = .ok (.iconst 1, 1) := by decide +kernel
theorem d21_41 : decode jdk_2097_method_46_code 41 = .ok (.iadd, 1) := by decide +kernel
theorem d21_42 : decode jdk_2097_method_46_code 42 = .ok (.iload 5, 2) := by decide +kernel
theorem d21_44 : decode jdk_2097_method_46_code 44 = .ok (.iadd, 1) := by decide +kernel
theorem d21_45 : decode jdk_2097_method_46_code 45 = .ok (.istore 10, 2) := by decide +kernel
theorem d21_47 : decode jdk_2097_method_46_code 47 = .ok (.iload 9, 2) := by decide +kernel
theorem d21_49 : decode jdk_2097_method_46_code 49 = .ok (.ifCond .lt 51, 3) := by decide +kernel
theorem d21_52 : decode jdk_2097_method_46_code 52 = .ok (.aload_n 2, 1) := by decide +kernel
theorem d21_53 : decode jdk_2097_method_46_code 53 = .ok (.iload 9, 2) := by decide +kernel
theorem d21_55 : decode jdk_2097_method_46_code 55 = .ok (.iaload, 1) := by decide +kernel
theorem d21_56 : decode jdk_2097_method_46_code 56 = .ok (.i2l, 1) := by decide +kernel
theorem d21_57 : decode jdk_2097_method_46_code 57 = .ok (.ldc2_w 130, 3) := by decide +kernel
theorem d21_60 : decode jdk_2097_method_46_code 60 = .ok (.land, 1) := by decide +kernel
theorem d21_61 : decode jdk_2097_method_46_code 61 = .ok (.aload_n 0, 1) := by decide +kernel
theorem d21_62 : decode jdk_2097_method_46_code 62 = .ok (.iload 5, 2) := by decide +kernel
theorem d21_64 : decode jdk_2097_method_46_code 64 = .ok (.iaload, 1) := by decide +kernel
theorem d21_65 : decode jdk_2097_method_46_code 65 = .ok (.i2l, 1) := by decide +kernel
theorem d21_66 : decode jdk_2097_method_46_code 66 = .ok (.ldc2_w 130, 3) := by decide +kernel
theorem d21_69 : decode jdk_2097_method_46_code 69 = .ok (.land, 1) := by decide +kernel
theorem d21_70 : decode jdk_2097_method_46_code 70 = .ok (.lmul, 1) := by decide +kernel
theorem d21_71 : decode jdk_2097_method_46_code 71 = .ok (.lload 7, 2) := by decide +kernel
theorem d21_73 : decode jdk_2097_method_46_code 73 = .ok (.ladd, 1) := by decide +kernel
theorem d21_74 : decode jdk_2097_method_46_code 74 = .ok (.lstore 11, 2) := by decide +kernel
theorem d21_76 : decode jdk_2097_method_46_code 76 = .ok (.aload 4, 2) := by decide +kernel
theorem d21_78 : decode jdk_2097_method_46_code 78 = .ok (.iload 10, 2) := by decide +kernel
theorem d21_80 : decode jdk_2097_method_46_code 80 = .ok (.lload 11, 2) := by decide +kernel
theorem d21_82 : decode jdk_2097_method_46_code 82 = .ok (.l2i, 1) := by decide +kernel
theorem d21_83 : decode jdk_2097_method_46_code 83 = .ok (.iastore, 1) := by decide +kernel
theorem d21_84 : decode jdk_2097_method_46_code 84 = .ok (.lload 11, 2) := by decide +kernel
theorem d21_86 : decode jdk_2097_method_46_code 86 = .ok (.bipush 32, 2) := by decide +kernel
theorem d21_88 : decode jdk_2097_method_46_code 88 = .ok (.lushr, 1) := by decide +kernel
theorem d21_89 : decode jdk_2097_method_46_code 89 = .ok (.lstore 7, 2) := by decide +kernel
theorem d21_91 : decode jdk_2097_method_46_code 91 = .ok (.iinc 9 (-1), 3) := by decide +kernel
theorem d21_94 : decode jdk_2097_method_46_code 94 = .ok (.iinc 10 (-1), 3) := by decide +kernel
theorem d21_97 : decode jdk_2097_method_46_code 97 = .ok (.goto (-50), 3) := by decide +kernel
theorem d21_100 : decode jdk_2097_method_46_code 100 = .ok (.aload 4, 2) := by decide +kernel
theorem d21_102 : decode jdk_2097_method_46_code 102 = .ok (.iload 5, 2) := by decide +kernel
theorem d21_104 : decode jdk_2097_method_46_code 104 = .ok (.lload 7, 2) := by decide +kernel
theorem d21_106 : decode jdk_2097_method_46_code 106 = .ok (.l2i, 1) := by decide +kernel
theorem d21_107 : decode jdk_2097_method_46_code 107 = .ok (.iastore, 1) := by decide +kernel
theorem d21_108 : decode jdk_2097_method_46_code 108 = .ok (.iload 5, 2) := by decide +kernel
theorem d21_110 : decode jdk_2097_method_46_code 110 = .ok (.iconst 1, 1) := by decide +kernel
theorem d21_111 : decode jdk_2097_method_46_code 111 = .ok (.isub, 1) := by decide +kernel
theorem d21_112 : decode jdk_2097_method_46_code 112 = .ok (.istore 9, 2) := by decide +kernel
theorem d21_114 : decode jdk_2097_method_46_code 114 = .ok (.iload 9, 2) := by decide +kernel
theorem d21_116 : decode jdk_2097_method_46_code 116 = .ok (.ifCond .lt 97, 3) := by decide +kernel
theorem d21_119 : decode jdk_2097_method_46_code 119 = .ok (.lconst 0, 1) := by decide +kernel
theorem d21_120 : decode jdk_2097_method_46_code 120 = .ok (.lstore 7, 2) := by decide +kernel
theorem d21_122 : decode jdk_2097_method_46_code 122 = .ok (.iload 6, 2) := by decide +kernel
theorem d21_124 : decode jdk_2097_method_46_code 124 = .ok (.istore 10, 2) := by decide +kernel
theorem d21_126 : decode jdk_2097_method_46_code 126 = .ok (.iload 6, 2) := by decide +kernel
theorem d21_128 : decode jdk_2097_method_46_code 128 = .ok (.iconst 1, 1) := by decide +kernel
theorem d21_129 : decode jdk_2097_method_46_code 129 = .ok (.iadd, 1) := by decide +kernel
theorem d21_130 : decode jdk_2097_method_46_code 130 = .ok (.iload 9, 2) := by decide +kernel
theorem d21_132 : decode jdk_2097_method_46_code 132 = .ok (.iadd, 1) := by decide +kernel
theorem d21_133 : decode jdk_2097_method_46_code 133 = .ok (.istore 11, 2) := by decide +kernel
theorem d21_135 : decode jdk_2097_method_46_code 135 = .ok (.iload 10, 2) := by decide +kernel
theorem d21_137 : decode jdk_2097_method_46_code 137 = .ok (.ifCond .lt 62, 3) := by decide +kernel
theorem d21_140 : decode jdk_2097_method_46_code 140 = .ok (.aload_n 2, 1) := by decide +kernel
theorem d21_141 : decode jdk_2097_method_46_code 141 = .ok (.iload 10, 2) := by decide +kernel
theorem d21_143 : decode jdk_2097_method_46_code 143 = .ok (.iaload, 1) := by decide +kernel
theorem d21_144 : decode jdk_2097_method_46_code 144 = .ok (.i2l, 1) := by decide +kernel
theorem d21_145 : decode jdk_2097_method_46_code 145 = .ok (.ldc2_w 130, 3) := by decide +kernel
theorem d21_148 : decode jdk_2097_method_46_code 148 = .ok (.land, 1) := by decide +kernel
theorem d21_149 : decode jdk_2097_method_46_code 149 = .ok (.aload_n 0, 1) := by decide +kernel
theorem d21_150 : decode jdk_2097_method_46_code 150 = .ok (.iload 9, 2) := by decide +kernel
theorem d21_152 : decode jdk_2097_method_46_code 152 = .ok (.iaload, 1) := by decide +kernel
theorem d21_153 : decode jdk_2097_method_46_code 153 = .ok (.i2l, 1) := by decide +kernel
theorem d21_154 : decode jdk_2097_method_46_code 154 = .ok (.ldc2_w 130, 3) := by decide +kernel
theorem d21_157 : decode jdk_2097_method_46_code 157 = .ok (.land, 1) := by decide +kernel
theorem d21_158 : decode jdk_2097_method_46_code 158 = .ok (.lmul, 1) := by decide +kernel
theorem d21_159 : decode jdk_2097_method_46_code 159 = .ok (.aload 4, 2) := by decide +kernel
theorem d21_161 : decode jdk_2097_method_46_code 161 = .ok (.iload 11, 2) := by decide +kernel
theorem d21_163 : decode jdk_2097_method_46_code 163 = .ok (.iaload, 1) := by decide +kernel
theorem d21_164 : decode jdk_2097_method_46_code 164 = .ok (.i2l, 1) := by decide +kernel
theorem d21_165 : decode jdk_2097_method_46_code 165 = .ok (.ldc2_w 130, 3) := by decide +kernel
theorem d21_168 : decode jdk_2097_method_46_code 168 = .ok (.land, 1) := by decide +kernel
theorem d21_169 : decode jdk_2097_method_46_code 169 = .ok (.ladd, 1) := by decide +kernel
theorem d21_170 : decode jdk_2097_method_46_code 170 = .ok (.lload 7, 2) := by decide +kernel
theorem d21_172 : decode jdk_2097_method_46_code 172 = .ok (.ladd, 1) := by decide +kernel
theorem d21_173 : decode jdk_2097_method_46_code 173 = .ok (.lstore 12, 2) := by decide +kernel
theorem d21_175 : decode jdk_2097_method_46_code 175 = .ok (.aload 4, 2) := by decide +kernel
theorem d21_177 : decode jdk_2097_method_46_code 177 = .ok (.iload 11, 2) := by decide +kernel
theorem d21_179 : decode jdk_2097_method_46_code 179 = .ok (.lload 12, 2) := by decide +kernel
theorem d21_181 : decode jdk_2097_method_46_code 181 = .ok (.l2i, 1) := by decide +kernel
theorem d21_182 : decode jdk_2097_method_46_code 182 = .ok (.iastore, 1) := by decide +kernel
theorem d21_183 : decode jdk_2097_method_46_code 183 = .ok (.lload 12, 2) := by decide +kernel
theorem d21_185 : decode jdk_2097_method_46_code 185 = .ok (.bipush 32, 2) := by decide +kernel
theorem d21_187 : decode jdk_2097_method_46_code 187 = .ok (.lushr, 1) := by decide +kernel
theorem d21_188 : decode jdk_2097_method_46_code 188 = .ok (.lstore 7, 2) := by decide +kernel
theorem d21_190 : decode jdk_2097_method_46_code 190 = .ok (.iinc 10 (-1), 3) := by decide +kernel
theorem d21_193 : decode jdk_2097_method_46_code 193 = .ok (.iinc 11 (-1), 3) := by decide +kernel
theorem d21_196 : decode jdk_2097_method_46_code 196 = .ok (.goto (-61), 3) := by decide +kernel
theorem d21_199 : decode jdk_2097_method_46_code 199 = .ok (.aload 4, 2) := by decide +kernel
theorem d21_201 : decode jdk_2097_method_46_code 201 = .ok (.iload 9, 2) := by decide +kernel
theorem d21_203 : decode jdk_2097_method_46_code 203 = .ok (.lload 7, 2) := by decide +kernel
theorem d21_205 : decode jdk_2097_method_46_code 205 = .ok (.l2i, 1) := by decide +kernel
theorem d21_206 : decode jdk_2097_method_46_code 206 = .ok (.iastore, 1) := by decide +kernel
theorem d21_207 : decode jdk_2097_method_46_code 207 = .ok (.iinc 9 (-1), 3) := by decide +kernel
theorem d21_210 : decode jdk_2097_method_46_code 210 = .ok (.goto (-96), 3) := by decide +kernel
theorem d21_213 : decode jdk_2097_method_46_code 213 = .ok (.aload 4, 2) := by decide +kernel
theorem d21_215 : decode jdk_2097_method_46_code 215 = .ok (.areturn, 1) := by decide +kernel
theorem own_ef18_RIRIN (m : MethodId) (x0 : Addr) (x1 : Int32) (x2 : Addr) (x3 : Int32) : entryFrame m #[.ref x0, .int x1, .ref x2, .int x3, .null] 5 = mkF m 0 #[rv x0, iv x1, rv x2, iv x3, .val .null] [] := by first | (simp [entryFrame, mkF, argsToLocals, Value.category]; done) | rfl
theorem d18_0 : decode jdk_2097_method_45_code 0 = .ok (.aload_n 0, 1) := by decide +kernel
theorem d18_1 : decode jdk_2097_method_45_code 1 = .ok (.iload_n 1, 1) := by decide +kernel
theorem d18_2 : decode jdk_2097_method_45_code 2 = .ok (.invokestatic 441, 3) := by decide +kernel
theorem own_pd2 : parseMethodDescriptor "([II)V" = some ⟨[(.array .int), .int], none⟩ := by decide +kernel
theorem d18_5 : decode jdk_2097_method_45_code 5 = .ok (.aload_n 2, 1) := by decide +kernel
theorem d18_6 : decode jdk_2097_method_45_code 6 = .ok (.iload_n 3, 1) := by decide +kernel
theorem d18_7 : decode jdk_2097_method_45_code 7 = .ok (.invokestatic 441, 3) := by decide +kernel
theorem d18_10 : decode jdk_2097_method_45_code 10 = .ok (.aload_n 0, 1) := by decide +kernel
theorem d18_11 : decode jdk_2097_method_45_code 11 = .ok (.iload_n 1, 1) := by decide +kernel
theorem d18_12 : decode jdk_2097_method_45_code 12 = .ok (.aload_n 2, 1) := by decide +kernel
theorem d18_13 : decode jdk_2097_method_45_code 13 = .ok (.iload_n 3, 1) := by decide +kernel
theorem d18_14 : decode jdk_2097_method_45_code 14 = .ok (.aload 4, 2) := by decide +kernel
theorem d18_16 : decode jdk_2097_method_45_code 16 = .ok (.invokestatic 444, 3) := by decide +kernel
theorem own_pd3 : parseMethodDescriptor "([II[II[I)[I" = some ⟨[(.array .int), .int, (.array .int), .int, (.array .int)], some (.array .int)⟩ := by decide +kernel
theorem d18_19 : decode jdk_2097_method_45_code 19 = .ok (.areturn, 1) := by decide +kernel
theorem own_ef14_RJ (m : MethodId) (x0 : Addr) (x1 : Int64) : entryFrame m #[.ref x0, .long x1] 4 = mkF m 0 #[rv x0, .val (.long x1), .second, .unset] [] := by first | (simp [entryFrame, mkF, argsToLocals, Value.category]; done) | rfl
theorem d14_0 : decode jdk_2097_method_30_code 0 = .ok (.aload_n 0, 1) := by decide +kernel
theorem d14_1 : decode jdk_2097_method_30_code 1 = .ok (.invokespecial 3, 3) := by decide +kernel
theorem d14_4 : decode jdk_2097_method_30_code 4 = .ok (.lload_n 1, 1) := by decide +kernel
theorem d14_5 : decode jdk_2097_method_30_code 5 = .ok (.lconst 0, 1) := by decide +kernel
theorem d14_6 : decode jdk_2097_method_30_code 6 = .ok (.lcmp, 1) := by decide +kernel
theorem d14_7 : decode jdk_2097_method_30_code 7 = .ok (.ifCond .ge 14, 3) := by decide +kernel
theorem d14_10 : decode jdk_2097_method_30_code 10 = .ok (.lload_n 1, 1) := by decide +kernel
theorem d14_11 : decode jdk_2097_method_30_code 11 = .ok (.lneg, 1) := by decide +kernel
theorem d14_12 : decode jdk_2097_method_30_code 12 = .ok (.lstore_n 1, 1) := by decide +kernel
theorem d14_13 : decode jdk_2097_method_30_code 13 = .ok (.aload_n 0, 1) := by decide +kernel
theorem d14_14 : decode jdk_2097_method_30_code 14 = .ok (.iconst (-1), 1) := by decide +kernel
theorem d14_15 : decode jdk_2097_method_30_code 15 = .ok (.putfield 32, 3) := by decide +kernel
theorem d14_18 : decode jdk_2097_method_30_code 18 = .ok (.goto 8, 3) := by decide +kernel
theorem d14_26 : decode jdk_2097_method_30_code 26 = .ok (.lload_n 1, 1) := by decide +kernel
theorem d14_27 : decode jdk_2097_method_30_code 27 = .ok (.bipush 32, 2) := by decide +kernel
theorem d14_29 : decode jdk_2097_method_30_code 29 = .ok (.lushr, 1) := by decide +kernel
theorem d14_30 : decode jdk_2097_method_30_code 30 = .ok (.l2i, 1) := by decide +kernel
theorem d14_31 : decode jdk_2097_method_30_code 31 = .ok (.istore_n 3, 1) := by decide +kernel
theorem d14_32 : decode jdk_2097_method_30_code 32 = .ok (.iload_n 3, 1) := by decide +kernel
theorem d14_33 : decode jdk_2097_method_30_code 33 = .ok (.ifCond .ne 21, 3) := by decide +kernel
theorem d14_36 : decode jdk_2097_method_30_code 36 = .ok (.aload_n 0, 1) := by decide +kernel
theorem d14_37 : decode jdk_2097_method_30_code 37 = .ok (.iconst 1, 1) := by decide +kernel
theorem d14_38 : decode jdk_2097_method_30_code 38 = .ok (.newarray .int, 2) := by decide +kernel
theorem d14_40 : decode jdk_2097_method_30_code 40 = .ok (.putfield 28, 3) := by decide +kernel
theorem d14_43 : decode jdk_2097_method_30_code 43 = .ok (.aload_n 0, 1) := by decide +kernel
theorem d14_44 : decode jdk_2097_method_30_code 44 = .ok (.getfield 28, 3) := by decide +kernel
theorem d14_47 : decode jdk_2097_method_30_code 47 = .ok (.iconst 0, 1) := by decide +kernel
theorem d14_48 : decode jdk_2097_method_30_code 48 = .ok (.lload_n 1, 1) := by decide +kernel
theorem d14_49 : decode jdk_2097_method_30_code 49 = .ok (.l2i, 1) := by decide +kernel
theorem d14_50 : decode jdk_2097_method_30_code 50 = .ok (.iastore, 1) := by decide +kernel
theorem d14_51 : decode jdk_2097_method_30_code 51 = .ok (.goto 25, 3) := by decide +kernel
theorem d14_76 : decode jdk_2097_method_30_code 76 = .ok (.return_, 1) := by decide +kernel
theorem d14_54 : decode jdk_2097_method_30_code 54 = .ok (.aload_n 0, 1) := by decide +kernel
theorem d14_55 : decode jdk_2097_method_30_code 55 = .ok (.iconst 2, 1) := by decide +kernel
theorem d14_56 : decode jdk_2097_method_30_code 56 = .ok (.newarray .int, 2) := by decide +kernel
theorem d14_58 : decode jdk_2097_method_30_code 58 = .ok (.putfield 28, 3) := by decide +kernel
theorem d14_61 : decode jdk_2097_method_30_code 61 = .ok (.aload_n 0, 1) := by decide +kernel
theorem d14_62 : decode jdk_2097_method_30_code 62 = .ok (.getfield 28, 3) := by decide +kernel
theorem d14_65 : decode jdk_2097_method_30_code 65 = .ok (.iconst 0, 1) := by decide +kernel
theorem d14_66 : decode jdk_2097_method_30_code 66 = .ok (.iload_n 3, 1) := by decide +kernel
theorem d14_67 : decode jdk_2097_method_30_code 67 = .ok (.iastore, 1) := by decide +kernel
theorem d14_68 : decode jdk_2097_method_30_code 68 = .ok (.aload_n 0, 1) := by decide +kernel
theorem d14_69 : decode jdk_2097_method_30_code 69 = .ok (.getfield 28, 3) := by decide +kernel
theorem d14_72 : decode jdk_2097_method_30_code 72 = .ok (.iconst 1, 1) := by decide +kernel
theorem d14_73 : decode jdk_2097_method_30_code 73 = .ok (.lload_n 1, 1) := by decide +kernel
theorem d14_74 : decode jdk_2097_method_30_code 74 = .ok (.l2i, 1) := by decide +kernel
theorem d14_75 : decode jdk_2097_method_30_code 75 = .ok (.iastore, 1) := by decide +kernel
theorem d14_21 : decode jdk_2097_method_30_code 21 = .ok (.aload_n 0, 1) := by decide +kernel
theorem d14_22 : decode jdk_2097_method_30_code 22 = .ok (.iconst 1, 1) := by decide +kernel
theorem d14_23 : decode jdk_2097_method_30_code 23 = .ok (.putfield 32, 3) := by decide +kernel
theorem own_ef17_RRIII (m : MethodId) (x0 : Addr) (x1 : Addr) (x2 : Int32) (x3 : Int32) (x4 : Int32) : entryFrame m #[.ref x0, .ref x1, .int x2, .int x3, .int x4] 9 = mkF m 0 #[rv x0, rv x1, iv x2, iv x3, iv x4, .unset, .unset, .unset, .unset] [] := by first | (simp [entryFrame, mkF, argsToLocals, Value.category]; done) | rfl
theorem d17_0 : decode jdk_2097_method_42_code 0 = .ok (.aload_n 1, 1) := by decide +kernel
theorem d17_1 : decode jdk_2097_method_42_code 1 = .ok (.getfield 32, 3) := by decide +kernel
theorem d17_4 : decode jdk_2097_method_42_code 4 = .ok (.ifCond .eq 10, 3) := by decide +kernel
theorem d17_7 : decode jdk_2097_method_42_code 7 = .ok (.aload_n 0, 1) := by decide +kernel
theorem d17_8 : decode jdk_2097_method_42_code 8 = .ok (.getfield 32, 3) := by decide +kernel
theorem d17_11 : decode jdk_2097_method_42_code 11 = .ok (.ifCond .ne 7, 3) := by decide +kernel
theorem d17_18 : decode jdk_2097_method_42_code 18 = .ok (.aload_n 0, 1) := by decide +kernel
theorem d17_19 : decode jdk_2097_method_42_code 19 = .ok (.getfield 28, 3) := by decide +kernel
theorem d17_22 : decode jdk_2097_method_42_code 22 = .ok (.arraylength, 1) := by decide +kernel
theorem d17_23 : decode jdk_2097_method_42_code 23 = .ok (.istore 5, 2) := by decide +kernel
theorem d17_25 : decode jdk_2097_method_42_code 25 = .ok (.aload_n 1, 1) := by decide +kernel
theorem d17_26 : decode jdk_2097_method_42_code 26 = .ok (.aload_n 0, 1) := by decide +kernel
theorem d17_27 : decode jdk_2097_method_42_code 27 = .ok (.if_acmp .ne 19, 3) := by decide +kernel
theorem d17_46 : decode jdk_2097_method_42_code 46 = .ok (.aload_n 1, 1) := by decide +kernel
theorem d17_47 : decode jdk_2097_method_42_code 47 = .ok (.getfield 28, 3) := by decide +kernel
theorem d17_50 : decode jdk_2097_method_42_code 50 = .ok (.arraylength, 1) := by decide +kernel
theorem d17_51 : decode jdk_2097_method_42_code 51 = .ok (.istore 6, 2) := by decide +kernel
theorem d17_53 : decode jdk_2097_method_42_code 53 = .ok (.iload 5, 2) := by decide +kernel
theorem d17_55 : decode jdk_2097_method_42_code 55 = .ok (.bipush 80, 2) := by decide +kernel
theorem d17_57 : decode jdk_2097_method_42_code 57 = .ok (.if_icmp .lt 10, 3) := by decide +kernel
theorem d17_67 : decode jdk_2097_method_42_code 67 = .ok (.aload_n 0, 1) := by decide +kernel
theorem d17_68 : decode jdk_2097_method_42_code 68 = .ok (.getfield 32, 3) := by decide +kernel
theorem d17_71 : decode jdk_2097_method_42_code 71 = .ok (.aload_n 1, 1) := by decide +kernel
theorem d17_72 : decode jdk_2097_method_42_code 72 = .ok (.getfield 32, 3) := by decide +kernel
theorem d17_75 : decode jdk_2097_method_42_code 75 = .ok (.if_icmp .ne 7, 3) := by decide +kernel
theorem d17_78 : decode jdk_2097_method_42_code 78 = .ok (.iconst 1, 1) := by decide +kernel
theorem d17_79 : decode jdk_2097_method_42_code 79 = .ok (.goto 4, 3) := by decide +kernel
theorem d17_83 : decode jdk_2097_method_42_code 83 = .ok (.istore 7, 2) := by decide +kernel
theorem d17_85 : decode jdk_2097_method_42_code 85 = .ok (.aload_n 1, 1) := by decide +kernel
theorem d17_86 : decode jdk_2097_method_42_code 86 = .ok (.getfield 28, 3) := by decide +kernel
theorem d17_89 : decode jdk_2097_method_42_code 89 = .ok (.arraylength, 1) := by decide +kernel
theorem d17_90 : decode jdk_2097_method_42_code 90 = .ok (.iconst 1, 1) := by decide +kernel
theorem d17_91 : decode jdk_2097_method_42_code 91 = .ok (.if_icmp .ne 19, 3) := by decide +kernel
theorem d17_110 : decode jdk_2097_method_42_code 110 = .ok (.aload_n 0, 1) := by decide +kernel
theorem d17_111 : decode jdk_2097_method_42_code 111 = .ok (.getfield 28, 3) := by decide +kernel
theorem d17_114 : decode jdk_2097_method_42_code 114 = .ok (.arraylength, 1) := by decide +kernel
theorem d17_115 : decode jdk_2097_method_42_code 115 = .ok (.iconst 1, 1) := by decide +kernel
theorem d17_116 : decode jdk_2097_method_42_code 116 = .ok (.if_icmp .ne 19, 3) := by decide +kernel
theorem d17_135 : decode jdk_2097_method_42_code 135 = .ok (.aload_n 0, 1) := by decide +kernel
theorem d17_136 : decode jdk_2097_method_42_code 136 = .ok (.getfield 28, 3) := by decide +kernel
theorem d17_139 : decode jdk_2097_method_42_code 139 = .ok (.iload 5, 2) := by decide +kernel
theorem d17_141 : decode jdk_2097_method_42_code 141 = .ok (.aload_n 1, 1) := by decide +kernel
theorem d17_142 : decode jdk_2097_method_42_code 142 = .ok (.getfield 28, 3) := by decide +kernel
theorem d17_145 : decode jdk_2097_method_42_code 145 = .ok (.iload 6, 2) := by decide +kernel
theorem d17_147 : decode jdk_2097_method_42_code 147 = .ok (.aconst_null, 1) := by decide +kernel
theorem d17_148 : decode jdk_2097_method_42_code 148 = .ok (.invokestatic 407, 3) := by decide +kernel
theorem d17_151 : decode jdk_2097_method_42_code 151 = .ok (.astore 8, 2) := by decide +kernel
theorem d17_153 : decode jdk_2097_method_42_code 153 = .ok (.aload 8, 2) := by decide +kernel
theorem d17_155 : decode jdk_2097_method_42_code 155 = .ok (.invokestatic 53, 3) := by decide +kernel
theorem own_pd4 : parseMethodDescriptor "([I)[I" = some ⟨[(.array .int)], some (.array .int)⟩ := by decide +kernel
theorem d17_158 : decode jdk_2097_method_42_code 158 = .ok (.astore 8, 2) := by decide +kernel
theorem d17_160 : decode jdk_2097_method_42_code 160 = .ok (.new 23, 3) := by decide +kernel
theorem d17_163 : decode jdk_2097_method_42_code 163 = .ok (.dup, 1) := by decide +kernel
theorem d17_164 : decode jdk_2097_method_42_code 164 = .ok (.aload 8, 2) := by decide +kernel
theorem d17_166 : decode jdk_2097_method_42_code 166 = .ok (.iload 7, 2) := by decide +kernel
theorem d17_168 : decode jdk_2097_method_42_code 168 = .ok (.invokespecial 175, 3) := by decide +kernel
theorem d17_171 : decode jdk_2097_method_42_code 171 = .ok (.areturn, 1) := by decide +kernel
theorem own_ef16_RR (m : MethodId) (x0 : Addr) (x1 : Addr) : entryFrame m #[.ref x0, .ref x1] 2 = mkF m 0 #[rv x0, rv x1] [] := by first | (simp [entryFrame, mkF, argsToLocals, Value.category]; done) | rfl
theorem d16_0 : decode jdk_2097_method_40_code 0 = .ok (.aload_n 0, 1) := by decide +kernel
theorem d16_1 : decode jdk_2097_method_40_code 1 = .ok (.aload_n 1, 1) := by decide +kernel
theorem d16_2 : decode jdk_2097_method_40_code 2 = .ok (.iconst 0, 1) := by decide +kernel
theorem d16_3 : decode jdk_2097_method_40_code 3 = .ok (.iconst 0, 1) := by decide +kernel
theorem d16_4 : decode jdk_2097_method_40_code 4 = .ok (.iconst 0, 1) := by decide +kernel
theorem d16_5 : decode jdk_2097_method_40_code 5 = .ok (.invokevirtual 397, 3) := by decide +kernel
theorem own_pd5 : parseMethodDescriptor "(Ljava/math/BigInteger;ZZI)Ljava/math/BigInteger;" = some ⟨[(.object "java/math/BigInteger"), .boolean, .boolean, .int], some (.object "java/math/BigInteger")⟩ := by decide +kernel
theorem d16_8 : decode jdk_2097_method_40_code 8 = .ok (.areturn, 1) := by decide +kernel
theorem own_ef25_RR (m : MethodId) (x0 : Addr) (x1 : Addr) : entryFrame m #[.ref x0, .ref x1] 9 = mkF m 0 #[rv x0, rv x1, .unset, .unset, .unset, .unset, .unset, .unset, .unset] [] := by first | (simp [entryFrame, mkF, argsToLocals, Value.category]; done) | rfl
theorem d25_0 : decode jdk_2097_method_35_code 0 = .ok (.aload_n 0, 1) := by decide +kernel
theorem d25_1 : decode jdk_2097_method_35_code 1 = .ok (.arraylength, 1) := by decide +kernel
theorem d25_2 : decode jdk_2097_method_35_code 2 = .ok (.aload_n 1, 1) := by decide +kernel
theorem d25_3 : decode jdk_2097_method_35_code 3 = .ok (.arraylength, 1) := by decide +kernel
theorem d25_4 : decode jdk_2097_method_35_code 4 = .ok (.if_icmp .ge 9, 3) := by decide +kernel
theorem d25_7 : decode jdk_2097_method_35_code 7 = .ok (.aload_n 0, 1) := by decide +kernel
theorem d25_8 : decode jdk_2097_method_35_code 8 = .ok (.astore_n 2, 1) := by decide +kernel
theorem d25_9 : decode jdk_2097_method_35_code 9 = .ok (.aload_n 1, 1) := by decide +kernel
theorem d25_10 : decode jdk_2097_method_35_code 10 = .ok (.astore_n 0, 1) := by decide +kernel
theorem d25_11 : decode jdk_2097_method_35_code 11 = .ok (.aload_n 2, 1) := by decide +kernel
theorem d25_12 : decode jdk_2097_method_35_code 12 = .ok (.astore_n 1, 1) := by decide +kernel
theorem d25_13 : decode jdk_2097_method_35_code 13 = .ok (.aload_n 0, 1) := by decide +kernel
theorem d25_14 : decode jdk_2097_method_35_code 14 = .ok (.arraylength, 1) := by decide +kernel
theorem d25_15 : decode jdk_2097_method_35_code 15 = .ok (.istore_n 2, 1) := by decide +kernel
theorem d25_16 : decode jdk_2097_method_35_code 16 = .ok (.aload_n 1, 1) := by decide +kernel
theorem d25_17 : decode jdk_2097_method_35_code 17 = .ok (.arraylength, 1) := by decide +kernel
theorem d25_18 : decode jdk_2097_method_35_code 18 = .ok (.istore_n 3, 1) := by decide +kernel
theorem d25_19 : decode jdk_2097_method_35_code 19 = .ok (.iload_n 2, 1) := by decide +kernel
theorem d25_20 : decode jdk_2097_method_35_code 20 = .ok (.newarray .int, 2) := by decide +kernel
theorem d25_22 : decode jdk_2097_method_35_code 22 = .ok (.astore 4, 2) := by decide +kernel
theorem d25_24 : decode jdk_2097_method_35_code 24 = .ok (.lconst 0, 1) := by decide +kernel
theorem d25_25 : decode jdk_2097_method_35_code 25 = .ok (.lstore 5, 2) := by decide +kernel
theorem d25_27 : decode jdk_2097_method_35_code 27 = .ok (.iload_n 3, 1) := by decide +kernel
theorem d25_28 : decode jdk_2097_method_35_code 28 = .ok (.iconst 1, 1) := by decide +kernel
theorem d25_29 : decode jdk_2097_method_35_code 29 = .ok (.if_icmp .ne 35, 3) := by decide +kernel
theorem d25_32 : decode jdk_2097_method_35_code 32 = .ok (.aload_n 0, 1) := by decide +kernel
theorem d25_33 : decode jdk_2097_method_35_code 33 = .ok (.iinc 2 (-1), 3) := by decide +kernel
theorem d25_36 : decode jdk_2097_method_35_code 36 = .ok (.iload_n 2, 1) := by decide +kernel
theorem d25_37 : decode jdk_2097_method_35_code 37 = .ok (.iaload, 1) := by decide +kernel
theorem d25_38 : decode jdk_2097_method_35_code 38 = .ok (.i2l, 1) := by decide +kernel
theorem d25_39 : decode jdk_2097_method_35_code 39 = .ok (.ldc2_w 130, 3) := by decide +kernel
theorem d25_42 : decode jdk_2097_method_35_code 42 = .ok (.land, 1) := by decide +kernel
theorem d25_43 : decode jdk_2097_method_35_code 43 = .ok (.aload_n 1, 1) := by decide +kernel
theorem d25_44 : decode jdk_2097_method_35_code 44 = .ok (.iconst 0, 1) := by decide +kernel
theorem d25_45 : decode jdk_2097_method_35_code 45 = .ok (.iaload, 1) := by decide +kernel
theorem d25_46 : decode jdk_2097_method_35_code 46 = .ok (.i2l, 1) := by decide +kernel
theorem d25_47 : decode jdk_2097_method_35_code 47 = .ok (.ldc2_w 130, 3) := by decide +kernel
theorem d25_50 : decode jdk_2097_method_35_code 50 = .ok (.land, 1) := by decide +kernel
theorem d25_51 : decode jdk_2097_method_35_code 51 = .ok (.ladd, 1) := by decide +kernel
theorem d25_52 : decode jdk_2097_method_35_code 52 = .ok (.lstore 5, 2) := by decide +kernel
theorem d25_54 : decode jdk_2097_method_35_code 54 = .ok (.aload 4, 2) := by decide +kernel
theorem d25_56 : decode jdk_2097_method_35_code 56 = .ok (.iload_n 2, 1) := by decide +kernel
theorem d25_57 : decode jdk_2097_method_35_code 57 = .ok (.lload 5, 2) := by decide +kernel
theorem d25_59 : decode jdk_2097_method_35_code 59 = .ok (.l2i, 1) := by decide +kernel
theorem d25_60 : decode jdk_2097_method_35_code 60 = .ok (.iastore, 1) := by decide +kernel
theorem d25_61 : decode jdk_2097_method_35_code 61 = .ok (.goto 48, 3) := by decide +kernel
theorem d25_109 : decode jdk_2097_method_35_code 109 = .ok (.lload 5, 2) := by decide +kernel
theorem d25_111 : decode jdk_2097_method_35_code 111 = .ok (.bipush 32, 2) := by decide +kernel
theorem d25_113 : decode jdk_2097_method_35_code 113 = .ok (.lushr, 1) := by decide +kernel
theorem d25_114 : decode jdk_2097_method_35_code 114 = .ok (.lconst 0, 1) := by decide +kernel
theorem d25_115 : decode jdk_2097_method_35_code 115 = .ok (.lcmp, 1) := by decide +kernel
theorem d25_116 : decode jdk_2097_method_35_code 116 = .ok (.ifCond .eq 7, 3) := by decide +kernel
theorem d25_123 : decode jdk_2097_method_35_code 123 = .ok (.iconst 0, 1) := by decide +kernel
theorem d25_124 : decode jdk_2097_method_35_code 124 = .ok (.istore 7, 2) := by decide +kernel
theorem d25_126 : decode jdk_2097_method_35_code 126 = .ok (.iload_n 2, 1) := by decide +kernel
theorem d25_127 : decode jdk_2097_method_35_code 127 = .ok (.ifCond .le 34, 3) := by decide +kernel
theorem d25_130 : decode jdk_2097_method_35_code 130 = .ok (.iload 7, 2) := by decide +kernel
theorem d25_132 : decode jdk_2097_method_35_code 132 = .ok (.ifCond .eq 29, 3) := by decide +kernel
theorem d25_161 : decode jdk_2097_method_35_code 161 = .ok (.iload_n 2, 1) := by decide +kernel
theorem d25_162 : decode jdk_2097_method_35_code 162 = .ok (.ifCond .le 16, 3) := by decide +kernel
theorem d25_165 : decode jdk_2097_method_35_code 165 = .ok (.aload 4, 2) := by decide +kernel
theorem d25_167 : decode jdk_2097_method_35_code 167 = .ok (.iinc 2 (-1), 3) := by decide +kernel
theorem d25_170 : decode jdk_2097_method_35_code 170 = .ok (.iload_n 2, 1) := by decide +kernel
theorem d25_171 : decode jdk_2097_method_35_code 171 = .ok (.aload_n 0, 1) := by decide +kernel
theorem d25_172 : decode jdk_2097_method_35_code 172 = .ok (.iload_n 2, 1) := by decide +kernel
theorem d25_173 : decode jdk_2097_method_35_code 173 = .ok (.iaload, 1) := by decide +kernel
theorem d25_174 : decode jdk_2097_method_35_code 174 = .ok (.iastore, 1) := by decide +kernel
theorem d25_175 : decode jdk_2097_method_35_code 175 = .ok (.goto (-14), 3) := by decide +kernel
theorem d25_178 : decode jdk_2097_method_35_code 178 = .ok (.iload 7, 2) := by decide +kernel
theorem d25_180 : decode jdk_2097_method_35_code 180 = .ok (.ifCond .eq 32, 3) := by decide +kernel
theorem d25_212 : decode jdk_2097_method_35_code 212 = .ok (.aload 4, 2) := by decide +kernel
theorem d25_214 : decode jdk_2097_method_35_code 214 = .ok (.areturn, 1) := by decide +kernel
theorem d25_119 : decode jdk_2097_method_35_code 119 = .ok (.iconst 1, 1) := by decide +kernel
theorem d25_120 : decode jdk_2097_method_35_code 120 = .ok (.goto 4, 3) := by decide +kernel
theorem d25_135 : decode jdk_2097_method_35_code 135 = .ok (.aload 4, 2) := by decide +kernel
theorem d25_137 : decode jdk_2097_method_35_code 137 = .ok (.iinc 2 (-1), 3) := by decide +kernel
theorem d25_140 : decode jdk_2097_method_35_code 140 = .ok (.iload_n 2, 1) := by decide +kernel
theorem d25_141 : decode jdk_2097_method_35_code 141 = .ok (.aload_n 0, 1) := by decide +kernel
theorem d25_142 : decode jdk_2097_method_35_code 142 = .ok (.iload_n 2, 1) := by decide +kernel
theorem d25_143 : decode jdk_2097_method_35_code 143 = .ok (.iaload, 1) := by decide +kernel
theorem d25_144 : decode jdk_2097_method_35_code 144 = .ok (.iconst 1, 1) := by decide +kernel
theorem d25_145 : decode jdk_2097_method_35_code 145 = .ok (.iadd, 1) := by decide +kernel
theorem d25_146 : decode jdk_2097_method_35_code 146 = .ok (.dup_x2, 1) := by decide +kernel
theorem d25_147 : decode jdk_2097_method_35_code 147 = .ok (.iastore, 1) := by decide +kernel
theorem d25_148 : decode jdk_2097_method_35_code 148 = .ok (.ifCond .ne 7, 3) := by decide +kernel
theorem d25_155 : decode jdk_2097_method_35_code 155 = .ok (.iconst 0, 1) := by decide +kernel
theorem d25_156 : decode jdk_2097_method_35_code 156 = .ok (.istore 7, 2) := by decide +kernel
theorem d25_158 : decode jdk_2097_method_35_code 158 = .ok (.goto (-32), 3) := by decide +kernel
theorem d25_64 : decode jdk_2097_method_35_code 64 = .ok (.iload_n 3, 1) := by decide +kernel
theorem d25_65 : decode jdk_2097_method_35_code 65 = .ok (.ifCond .le 44, 3) := by decide +kernel
theorem d25_68 : decode jdk_2097_method_35_code 68 = .ok (.aload_n 0, 1) := by decide +kernel
theorem d25_69 : decode jdk_2097_method_35_code 69 = .ok (.iinc 2 (-1), 3) := by decide +kernel
theorem d25_72 : decode jdk_2097_method_35_code 72 = .ok (.iload_n 2, 1) := by decide +kernel
theorem d25_73 : decode jdk_2097_method_35_code 73 = .ok (.iaload, 1) := by decide +kernel
theorem d25_74 : decode jdk_2097_method_35_code 74 = .ok (.i2l, 1) := by decide +kernel
theorem d25_75 : decode jdk_2097_method_35_code 75 = .ok (.ldc2_w 130, 3) := by decide +kernel
theorem d25_78 : decode jdk_2097_method_35_code 78 = .ok (.land, 1) := by decide +kernel
theorem d25_79 : decode jdk_2097_method_35_code 79 = .ok (.aload_n 1, 1) := by decide +kernel
theorem d25_80 : decode jdk_2097_method_35_code 80 = .ok (.iinc 3 (-1), 3) := by decide +kernel
theorem d25_83 : decode jdk_2097_method_35_code 83 = .ok (.iload_n 3, 1) := by decide +kernel
theorem d25_84 : decode jdk_2097_method_35_code 84 = .ok (.iaload, 1) := by decide +kernel
theorem d25_85 : decode jdk_2097_method_35_code 85 = .ok (.i2l, 1) := by decide +kernel
theorem d25_86 : decode jdk_2097_method_35_code 86 = .ok (.ldc2_w 130, 3) := by decide +kernel
theorem d25_89 : decode jdk_2097_method_35_code 89 = .ok (.land, 1) := by decide +kernel
theorem d25_90 : decode jdk_2097_method_35_code 90 = .ok (.ladd, 1) := by decide +kernel
theorem d25_91 : decode jdk_2097_method_35_code 91 = .ok (.lload 5, 2) := by decide +kernel
theorem d25_93 : decode jdk_2097_method_35_code 93 = .ok (.bipush 32, 2) := by decide +kernel
theorem d25_95 : decode jdk_2097_method_35_code 95 = .ok (.lushr, 1) := by decide +kernel
theorem d25_96 : decode jdk_2097_method_35_code 96 = .ok (.ladd, 1) := by decide +kernel
theorem d25_97 : decode jdk_2097_method_35_code 97 = .ok (.lstore 5, 2) := by decide +kernel
theorem d25_99 : decode jdk_2097_method_35_code 99 = .ok (.aload 4, 2) := by decide +kernel
theorem d25_101 : decode jdk_2097_method_35_code 101 = .ok (.iload_n 2, 1) := by decide +kernel
theorem d25_102 : decode jdk_2097_method_35_code 102 = .ok (.lload 5, 2) := by decide +kernel
theorem d25_104 : decode jdk_2097_method_35_code 104 = .ok (.l2i, 1) := by decide +kernel
theorem d25_105 : decode jdk_2097_method_35_code 105 = .ok (.iastore, 1) := by decide +kernel
theorem d25_106 : decode jdk_2097_method_35_code 106 = .ok (.goto (-42), 3) := by decide +kernel
theorem d25_151 : decode jdk_2097_method_35_code 151 = .ok (.iconst 1, 1) := by decide +kernel
theorem d25_152 : decode jdk_2097_method_35_code 152 = .ok (.goto 4, 3) := by decide +kernel
theorem own_ef28_RR (m : MethodId) (x0 : Addr) (x1 : Addr) : entryFrame m #[.ref x0, .ref x1] 8 = mkF m 0 #[rv x0, rv x1, .unset, .unset, .unset, .unset, .unset, .unset] [] := by first | (simp [entryFrame, mkF, argsToLocals, Value.category]; done) | rfl
theorem d28_0 : decode jdk_2097_method_39_code 0 = .ok (.aload_n 0, 1) := by decide +kernel
theorem d28_1 : decode jdk_2097_method_39_code 1 = .ok (.arraylength, 1) := by decide +kernel
theorem d28_2 : decode jdk_2097_method_39_code 2 = .ok (.istore_n 2, 1) := by decide +kernel
theorem d28_3 : decode jdk_2097_method_39_code 3 = .ok (.iload_n 2, 1) := by decide +kernel
theorem d28_4 : decode jdk_2097_method_39_code 4 = .ok (.newarray .int, 2) := by decide +kernel
theorem d28_6 : decode jdk_2097_method_39_code 6 = .ok (.astore_n 3, 1) := by decide +kernel
theorem d28_7 : decode jdk_2097_method_39_code 7 = .ok (.aload_n 1, 1) := by decide +kernel
theorem d28_8 : decode jdk_2097_method_39_code 8 = .ok (.arraylength, 1) := by decide +kernel
theorem d28_9 : decode jdk_2097_method_39_code 9 = .ok (.istore 4, 2) := by decide +kernel
theorem d28_11 : decode jdk_2097_method_39_code 11 = .ok (.lconst 0, 1) := by decide +kernel
theorem d28_12 : decode jdk_2097_method_39_code 12 = .ok (.lstore 5, 2) := by decide +kernel
theorem d28_14 : decode jdk_2097_method_39_code 14 = .ok (.iload 4, 2) := by decide +kernel
theorem d28_16 : decode jdk_2097_method_39_code 16 = .ok (.ifCond .le 44, 3) := by decide +kernel
theorem d28_19 : decode jdk_2097_method_39_code 19 = .ok (.aload_n 0, 1) := by decide +kernel
theorem d28_20 : decode jdk_2097_method_39_code 20 = .ok (.iinc 2 (-1), 3) := by decide +kernel
theorem d28_23 : decode jdk_2097_method_39_code 23 = .ok (.iload_n 2, 1) := by decide +kernel
theorem d28_24 : decode jdk_2097_method_39_code 24 = .ok (.iaload, 1) := by decide +kernel
theorem d28_25 : decode jdk_2097_method_39_code 25 = .ok (.i2l, 1) := by decide +kernel
theorem d28_26 : decode jdk_2097_method_39_code 26 = .ok (.ldc2_w 130, 3) := by decide +kernel
theorem d28_29 : decode jdk_2097_method_39_code 29 = .ok (.land, 1) := by decide +kernel
theorem d28_30 : decode jdk_2097_method_39_code 30 = .ok (.aload_n 1, 1) := by decide +kernel
theorem d28_31 : decode jdk_2097_method_39_code 31 = .ok (.iinc 4 (-1), 3) := by decide +kernel
theorem d28_34 : decode jdk_2097_method_39_code 34 = .ok (.iload 4, 2) := by decide +kernel
theorem d28_36 : decode jdk_2097_method_39_code 36 = .ok (.iaload, 1) := by decide +kernel
theorem d28_37 : decode jdk_2097_method_39_code 37 = .ok (.i2l, 1) := by decide +kernel
theorem d28_38 : decode jdk_2097_method_39_code 38 = .ok (.ldc2_w 130, 3) := by decide +kernel
theorem d28_41 : decode jdk_2097_method_39_code 41 = .ok (.land, 1) := by decide +kernel
theorem d28_42 : decode jdk_2097_method_39_code 42 = .ok (.lsub, 1) := by decide +kernel
theorem d28_43 : decode jdk_2097_method_39_code 43 = .ok (.lload 5, 2) := by decide +kernel
theorem d28_45 : decode jdk_2097_method_39_code 45 = .ok (.bipush 32, 2) := by decide +kernel
theorem d28_47 : decode jdk_2097_method_39_code 47 = .ok (.lshr, 1) := by decide +kernel
theorem d28_48 : decode jdk_2097_method_39_code 48 = .ok (.ladd, 1) := by decide +kernel
theorem d28_49 : decode jdk_2097_method_39_code 49 = .ok (.lstore 5, 2) := by decide +kernel
theorem d28_51 : decode jdk_2097_method_39_code 51 = .ok (.aload_n 3, 1) := by decide +kernel
theorem d28_52 : decode jdk_2097_method_39_code 52 = .ok (.iload_n 2, 1) := by decide +kernel
theorem d28_53 : decode jdk_2097_method_39_code 53 = .ok (.lload 5, 2) := by decide +kernel
theorem d28_55 : decode jdk_2097_method_39_code 55 = .ok (.l2i, 1) := by decide +kernel
theorem d28_56 : decode jdk_2097_method_39_code 56 = .ok (.iastore, 1) := by decide +kernel
theorem d28_57 : decode jdk_2097_method_39_code 57 = .ok (.goto (-43), 3) := by decide +kernel
theorem d28_60 : decode jdk_2097_method_39_code 60 = .ok (.lload 5, 2) := by decide +kernel
theorem d28_62 : decode jdk_2097_method_39_code 62 = .ok (.bipush 32, 2) := by decide +kernel
theorem d28_64 : decode jdk_2097_method_39_code 64 = .ok (.lshr, 1) := by decide +kernel
theorem d28_65 : decode jdk_2097_method_39_code 65 = .ok (.lconst 0, 1) := by decide +kernel
theorem d28_66 : decode jdk_2097_method_39_code 66 = .ok (.lcmp, 1) := by decide +kernel
theorem d28_67 : decode jdk_2097_method_39_code 67 = .ok (.ifCond .eq 7, 3) := by decide +kernel
theorem d28_74 : decode jdk_2097_method_39_code 74 = .ok (.iconst 0, 1) := by decide +kernel
theorem d28_75 : decode jdk_2097_method_39_code 75 = .ok (.istore 7, 2) := by decide +kernel
theorem d28_77 : decode jdk_2097_method_39_code 77 = .ok (.iload_n 2, 1) := by decide +kernel
theorem d28_78 : decode jdk_2097_method_39_code 78 = .ok (.ifCond .le 34, 3) := by decide +kernel
theorem d28_81 : decode jdk_2097_method_39_code 81 = .ok (.iload 7, 2) := by decide +kernel
theorem d28_83 : decode jdk_2097_method_39_code 83 = .ok (.ifCond .eq 29, 3) := by decide +kernel
theorem d28_112 : decode jdk_2097_method_39_code 112 = .ok (.iload_n 2, 1) := by decide +kernel
theorem d28_113 : decode jdk_2097_method_39_code 113 = .ok (.ifCond .le 15, 3) := by decide +kernel
theorem d28_116 : decode jdk_2097_method_39_code 116 = .ok (.aload_n 3, 1) := by decide +kernel
theorem d28_117 : decode jdk_2097_method_39_code 117 = .ok (.iinc 2 (-1), 3) := by decide +kernel
theorem d28_120 : decode jdk_2097_method_39_code 120 = .ok (.iload_n 2, 1) := by decide +kernel
theorem d28_121 : decode jdk_2097_method_39_code 121 = .ok (.aload_n 0, 1) := by decide +kernel
theorem d28_122 : decode jdk_2097_method_39_code 122 = .ok (.iload_n 2, 1) := by decide +kernel
theorem d28_123 : decode jdk_2097_method_39_code 123 = .ok (.iaload, 1) := by decide +kernel
theorem d28_124 : decode jdk_2097_method_39_code 124 = .ok (.iastore, 1) := by decide +kernel
theorem d28_125 : decode jdk_2097_method_39_code 125 = .ok (.goto (-13), 3) := by decide +kernel
theorem d28_128 : decode jdk_2097_method_39_code 128 = .ok (.aload_n 3, 1) := by decide +kernel
theorem d28_129 : decode jdk_2097_method_39_code 129 = .ok (.areturn, 1) := by decide +kernel
theorem d28_70 : decode jdk_2097_method_39_code 70 = .ok (.iconst 1, 1) := by decide +kernel
theorem d28_71 : decode jdk_2097_method_39_code 71 = .ok (.goto 4, 3) := by decide +kernel
theorem d28_86 : decode jdk_2097_method_39_code 86 = .ok (.aload_n 3, 1) := by decide +kernel
theorem d28_87 : decode jdk_2097_method_39_code 87 = .ok (.iinc 2 (-1), 3) := by decide +kernel
theorem d28_90 : decode jdk_2097_method_39_code 90 = .ok (.iload_n 2, 1) := by decide +kernel
theorem d28_91 : decode jdk_2097_method_39_code 91 = .ok (.aload_n 0, 1) := by decide +kernel
theorem d28_92 : decode jdk_2097_method_39_code 92 = .ok (.iload_n 2, 1) := by decide +kernel
theorem d28_93 : decode jdk_2097_method_39_code 93 = .ok (.iaload, 1) := by decide +kernel
theorem d28_94 : decode jdk_2097_method_39_code 94 = .ok (.iconst 1, 1) := by decide +kernel
theorem d28_95 : decode jdk_2097_method_39_code 95 = .ok (.isub, 1) := by decide +kernel
theorem d28_96 : decode jdk_2097_method_39_code 96 = .ok (.dup_x2, 1) := by decide +kernel
theorem d28_97 : decode jdk_2097_method_39_code 97 = .ok (.iastore, 1) := by decide +kernel
theorem d28_98 : decode jdk_2097_method_39_code 98 = .ok (.iconst (-1), 1) := by decide +kernel
theorem d28_99 : decode jdk_2097_method_39_code 99 = .ok (.if_icmp .ne 7, 3) := by decide +kernel
theorem d28_102 : decode jdk_2097_method_39_code 102 = .ok (.iconst 1, 1) := by decide +kernel
theorem d28_103 : decode jdk_2097_method_39_code 103 = .ok (.goto 4, 3) := by decide +kernel
theorem d28_107 : decode jdk_2097_method_39_code 107 = .ok (.istore 7, 2) := by decide +kernel
theorem d28_109 : decode jdk_2097_method_39_code 109 = .ok (.goto (-32), 3) := by decide +kernel
theorem d28_106 : decode jdk_2097_method_39_code 106 = .ok (.iconst 0, 1) := by decide +kernel
theorem own_ef27_RR (m : MethodId) (x0 : Addr) (x1 : Addr) : entryFrame m #[.ref x0, .ref x1] 9 = mkF m 0 #[rv x0, rv x1, .unset, .unset, .unset, .unset, .unset, .unset, .unset] [] := by first | (simp [entryFrame, mkF, argsToLocals, Value.category]; done) | rfl
theorem d27_0 : decode jdk_2097_method_122_code 0 = .ok (.aload_n 0, 1) := by decide +kernel
theorem d27_1 : decode jdk_2097_method_122_code 1 = .ok (.getfield 28, 3) := by decide +kernel
theorem d27_4 : decode jdk_2097_method_122_code 4 = .ok (.astore_n 2, 1) := by decide +kernel
theorem d27_5 : decode jdk_2097_method_122_code 5 = .ok (.aload_n 2, 1) := by decide +kernel
theorem d27_6 : decode jdk_2097_method_122_code 6 = .ok (.arraylength, 1) := by decide +kernel
theorem d27_7 : decode jdk_2097_method_122_code 7 = .ok (.istore_n 3, 1) := by decide +kernel
theorem d27_8 : decode jdk_2097_method_122_code 8 = .ok (.aload_n 1, 1) := by decide +kernel
theorem d27_9 : decode jdk_2097_method_122_code 9 = .ok (.getfield 28, 3) := by decide +kernel
theorem d27_12 : decode jdk_2097_method_122_code 12 = .ok (.astore 4, 2) := by decide +kernel
theorem d27_14 : decode jdk_2097_method_122_code 14 = .ok (.aload 4, 2) := by decide +kernel
theorem d27_16 : decode jdk_2097_method_122_code 16 = .ok (.arraylength, 1) := by decide +kernel
theorem d27_17 : decode jdk_2097_method_122_code 17 = .ok (.istore 5, 2) := by decide +kernel
theorem d27_19 : decode jdk_2097_method_122_code 19 = .ok (.iload_n 3, 1) := by decide +kernel
theorem d27_20 : decode jdk_2097_method_122_code 20 = .ok (.iload 5, 2) := by decide +kernel
theorem d27_22 : decode jdk_2097_method_122_code 22 = .ok (.if_icmp .ge 5, 3) := by decide +kernel
theorem d27_25 : decode jdk_2097_method_122_code 25 = .ok (.iconst (-1), 1) := by decide +kernel
theorem d27_26 : decode jdk_2097_method_122_code 26 = .ok (.ireturn, 1) := by decide +kernel
theorem d27_27 : decode jdk_2097_method_122_code 27 = .ok (.iload_n 3, 1) := by decide +kernel
theorem d27_28 : decode jdk_2097_method_122_code 28 = .ok (.iload 5, 2) := by decide +kernel
theorem d27_30 : decode jdk_2097_method_122_code 30 = .ok (.if_icmp .le 5, 3) := by decide +kernel
theorem d27_35 : decode jdk_2097_method_122_code 35 = .ok (.iconst 0, 1) := by decide +kernel
theorem d27_36 : decode jdk_2097_method_122_code 36 = .ok (.istore 6, 2) := by decide +kernel
theorem d27_38 : decode jdk_2097_method_122_code 38 = .ok (.iload 6, 2) := by decide +kernel
theorem d27_40 : decode jdk_2097_method_122_code 40 = .ok (.iload_n 3, 1) := by decide +kernel
theorem d27_41 : decode jdk_2097_method_122_code 41 = .ok (.if_icmp .ge 53, 3) := by decide +kernel
theorem d27_44 : decode jdk_2097_method_122_code 44 = .ok (.aload_n 2, 1) := by decide +kernel
theorem d27_45 : decode jdk_2097_method_122_code 45 = .ok (.iload 6, 2) := by decide +kernel
theorem d27_47 : decode jdk_2097_method_122_code 47 = .ok (.iaload, 1) := by decide +kernel
theorem d27_48 : decode jdk_2097_method_122_code 48 = .ok (.istore 7, 2) := by decide +kernel
theorem d27_50 : decode jdk_2097_method_122_code 50 = .ok (.aload 4, 2) := by decide +kernel
theorem d27_52 : decode jdk_2097_method_122_code 52 = .ok (.iload 6, 2) := by decide +kernel
theorem d27_54 : decode jdk_2097_method_122_code 54 = .ok (.iaload, 1) := by decide +kernel
theorem d27_55 : decode jdk_2097_method_122_code 55 = .ok (.istore 8, 2) := by decide +kernel
theorem d27_57 : decode jdk_2097_method_122_code 57 = .ok (.iload 7, 2) := by decide +kernel
theorem d27_59 : decode jdk_2097_method_122_code 59 = .ok (.iload 8, 2) := by decide +kernel
theorem d27_61 : decode jdk_2097_method_122_code 61 = .ok (.if_icmp .eq 27, 3) := by decide +kernel
theorem d27_88 : decode jdk_2097_method_122_code 88 = .ok (.iinc 6 1, 3) := by decide +kernel
theorem d27_91 : decode jdk_2097_method_122_code 91 = .ok (.goto (-53), 3) := by decide +kernel
theorem d27_94 : decode jdk_2097_method_122_code 94 = .ok (.iconst 0, 1) := by decide +kernel
theorem d27_95 : decode jdk_2097_method_122_code 95 = .ok (.ireturn, 1) := by decide +kernel
theorem own_ef24_RR (m : MethodId) (x0 : Addr) (x1 : Addr) : entryFrame m #[.ref x0, .ref x1] 4 = mkF m 0 #[rv x0, rv x1, .unset, .unset] [] := by first | (simp [entryFrame, mkF, argsToLocals, Value.category]; done) | rfl
theorem d24_0 : decode jdk_2097_method_32_code 0 = .ok (.aload_n 1, 1) := by decide +kernel
theorem d24_1 : decode jdk_2097_method_32_code 1 = .ok (.getfield 32, 3) := by decide +kernel
theorem d24_4 : decode jdk_2097_method_32_code 4 = .ok (.ifCond .ne 5, 3) := by decide +kernel
theorem d24_9 : decode jdk_2097_method_32_code 9 = .ok (.aload_n 0, 1) := by decide +kernel
theorem d24_10 : decode jdk_2097_method_32_code 10 = .ok (.getfield 32, 3) := by decide +kernel
theorem d24_13 : decode jdk_2097_method_32_code 13 = .ok (.ifCond .ne 5, 3) := by decide +kernel
theorem d24_16 : decode jdk_2097_method_32_code 16 = .ok (.aload_n 1, 1) := by decide +kernel
theorem d24_17 : decode jdk_2097_method_32_code 17 = .ok (.areturn, 1) := by decide +kernel
theorem d24_18 : decode jdk_2097_method_32_code 18 = .ok (.aload_n 1, 1) := by decide +kernel
theorem d24_19 : decode jdk_2097_method_32_code 19 = .ok (.getfield 32, 3) := by decide +kernel
theorem d24_22 : decode jdk_2097_method_32_code 22 = .ok (.aload_n 0, 1) := by decide +kernel
theorem d24_23 : decode jdk_2097_method_32_code 23 = .ok (.getfield 32, 3) := by decide +kernel
theorem d24_26 : decode jdk_2097_method_32_code 26 = .ok (.if_icmp .ne 26, 3) := by decide +kernel
theorem d24_29 : decode jdk_2097_method_32_code 29 = .ok (.new 23, 3) := by decide +kernel
theorem d24_32 : decode jdk_2097_method_32_code 32 = .ok (.dup, 1) := by decide +kernel
theorem d24_33 : decode jdk_2097_method_32_code 33 = .ok (.aload_n 0, 1) := by decide +kernel
theorem d24_34 : decode jdk_2097_method_32_code 34 = .ok (.getfield 28, 3) := by decide +kernel
theorem d24_37 : decode jdk_2097_method_32_code 37 = .ok (.aload_n 1, 1) := by decide +kernel
theorem d24_38 : decode jdk_2097_method_32_code 38 = .ok (.getfield 28, 3) := by decide +kernel
theorem d24_41 : decode jdk_2097_method_32_code 41 = .ok (.invokestatic 362, 3) := by decide +kernel
theorem own_pd6 : parseMethodDescriptor "([I[I)[I" = some ⟨[(.array .int), (.array .int)], some (.array .int)⟩ := by decide +kernel
theorem d24_44 : decode jdk_2097_method_32_code 44 = .ok (.aload_n 0, 1) := by decide +kernel
theorem d24_45 : decode jdk_2097_method_32_code 45 = .ok (.getfield 32, 3) := by decide +kernel
theorem d24_48 : decode jdk_2097_method_32_code 48 = .ok (.invokespecial 175, 3) := by decide +kernel
theorem d24_51 : decode jdk_2097_method_32_code 51 = .ok (.areturn, 1) := by decide +kernel
theorem d24_52 : decode jdk_2097_method_32_code 52 = .ok (.aload_n 0, 1) := by decide +kernel
theorem d24_53 : decode jdk_2097_method_32_code 53 = .ok (.aload_n 1, 1) := by decide +kernel
theorem d24_54 : decode jdk_2097_method_32_code 54 = .ok (.invokevirtual 365, 3) := by decide +kernel
theorem own_pd7 : parseMethodDescriptor "(Ljava/math/BigInteger;)I" = some ⟨[(.object "java/math/BigInteger")], some .int⟩ := by decide +kernel
theorem d24_57 : decode jdk_2097_method_32_code 57 = .ok (.istore_n 2, 1) := by decide +kernel
theorem d24_58 : decode jdk_2097_method_32_code 58 = .ok (.iload_n 2, 1) := by decide +kernel
theorem d24_59 : decode jdk_2097_method_32_code 59 = .ok (.ifCond .ne 7, 3) := by decide +kernel
theorem d24_66 : decode jdk_2097_method_32_code 66 = .ok (.iload_n 2, 1) := by decide +kernel
theorem d24_67 : decode jdk_2097_method_32_code 67 = .ok (.ifCond .le 17, 3) := by decide +kernel
theorem d24_84 : decode jdk_2097_method_32_code 84 = .ok (.aload_n 1, 1) := by decide +kernel
theorem d24_85 : decode jdk_2097_method_32_code 85 = .ok (.getfield 28, 3) := by decide +kernel
theorem d24_88 : decode jdk_2097_method_32_code 88 = .ok (.aload_n 0, 1) := by decide +kernel
theorem d24_89 : decode jdk_2097_method_32_code 89 = .ok (.getfield 28, 3) := by decide +kernel
theorem d24_92 : decode jdk_2097_method_32_code 92 = .ok (.invokestatic 368, 3) := by decide +kernel
theorem d24_95 : decode jdk_2097_method_32_code 95 = .ok (.astore_n 3, 1) := by decide +kernel
theorem d24_96 : decode jdk_2097_method_32_code 96 = .ok (.aload_n 3, 1) := by decide +kernel
theorem d24_97 : decode jdk_2097_method_32_code 97 = .ok (.invokestatic 53, 3) := by decide +kernel
theorem d24_100 : decode jdk_2097_method_32_code 100 = .ok (.astore_n 3, 1) := by decide +kernel
theorem d24_101 : decode jdk_2097_method_32_code 101 = .ok (.new 23, 3) := by decide +kernel
theorem d24_104 : decode jdk_2097_method_32_code 104 = .ok (.dup, 1) := by decide +kernel
theorem d24_105 : decode jdk_2097_method_32_code 105 = .ok (.aload_n 3, 1) := by decide +kernel
theorem d24_106 : decode jdk_2097_method_32_code 106 = .ok (.iload_n 2, 1) := by decide +kernel
theorem d24_107 : decode jdk_2097_method_32_code 107 = .ok (.aload_n 0, 1) := by decide +kernel
theorem d24_108 : decode jdk_2097_method_32_code 108 = .ok (.getfield 32, 3) := by decide +kernel
theorem d24_111 : decode jdk_2097_method_32_code 111 = .ok (.if_icmp .ne 7, 3) := by decide +kernel
theorem d24_114 : decode jdk_2097_method_32_code 114 = .ok (.iconst 1, 1) := by decide +kernel
theorem d24_115 : decode jdk_2097_method_32_code 115 = .ok (.goto 4, 3) := by decide +kernel
theorem d24_119 : decode jdk_2097_method_32_code 119 = .ok (.invokespecial 175, 3) := by decide +kernel
theorem d24_122 : decode jdk_2097_method_32_code 122 = .ok (.areturn, 1) := by decide +kernel
theorem own_ef13_J (m : MethodId) (x0 : Int64) : entryFrame m #[.long x0] 2 = mkF m 0 #[.val (.long x0), .second] [] := by first | (simp [entryFrame, mkF, argsToLocals, Value.category]; done) | rfl
theorem d13_0 : decode jdk_2097_method_29_code 0 = .ok (.lload_n 0, 1) := by decide +kernel
theorem d13_1 : decode jdk_2097_method_29_code 1 = .ok (.lconst 0, 1) := by decide +kernel
theorem d13_2 : decode jdk_2097_method_29_code 2 = .ok (.lcmp, 1) := by decide +kernel
theorem d13_3 : decode jdk_2097_method_29_code 3 = .ok (.ifCond .ne 7, 3) := by decide +kernel
theorem d13_6 : decode jdk_2097_method_29_code 6 = .ok (.getstatic 22, 3) := by decide +kernel
theorem d13_9 : decode jdk_2097_method_29_code 9 = .ok (.areturn, 1) := by decide +kernel
theorem d13_10 : decode jdk_2097_method_29_code 10 = .ok (.lload_n 0, 1) := by decide +kernel
theorem d13_11 : decode jdk_2097_method_29_code 11 = .ok (.lconst 0, 1) := by decide +kernel
theorem d13_12 : decode jdk_2097_method_29_code 12 = .ok (.lcmp, 1) := by decide +kernel
theorem d13_13 : decode jdk_2097_method_29_code 13 = .ok (.ifCond .le 18, 3) := by decide +kernel
theorem d13_16 : decode jdk_2097_method_29_code 16 = .ok (.lload_n 0, 1) := by decide +kernel
theorem d13_17 : decode jdk_2097_method_29_code 17 = .ok (.ldc2_w 345, 3) := by decide +kernel
theorem d13_20 : decode jdk_2097_method_29_code 20 = .ok (.lcmp, 1) := by decide +kernel
theorem d13_21 : decode jdk_2097_method_29_code 21 = .ok (.ifCond .gt 10, 3) := by decide +kernel
theorem d13_31 : decode jdk_2097_method_29_code 31 = .ok (.lload_n 0, 1) := by decide +kernel
theorem d13_32 : decode jdk_2097_method_29_code 32 = .ok (.lconst 0, 1) := by decide +kernel
theorem d13_33 : decode jdk_2097_method_29_code 33 = .ok (.lcmp, 1) := by decide +kernel
theorem d13_34 : decode jdk_2097_method_29_code 34 = .ok (.ifCond .ge 19, 3) := by decide +kernel
theorem d13_53 : decode jdk_2097_method_29_code 53 = .ok (.new 23, 3) := by decide +kernel
theorem d13_56 : decode jdk_2097_method_29_code 56 = .ok (.dup, 1) := by decide +kernel
theorem d13_57 : decode jdk_2097_method_29_code 57 = .ok (.lload_n 0, 1) := by decide +kernel
theorem d13_58 : decode jdk_2097_method_29_code 58 = .ok (.invokespecial 356, 3) := by decide +kernel
theorem own_pd8 : parseMethodDescriptor "(J)V" = some ⟨[.long], none⟩ := by decide +kernel
theorem d13_61 : decode jdk_2097_method_29_code 61 = .ok (.areturn, 1) := by decide +kernel
theorem d13_24 : decode jdk_2097_method_29_code 24 = .ok (.getstatic 347, 3) := by decide +kernel
theorem d13_27 : decode jdk_2097_method_29_code 27 = .ok (.lload_n 0, 1) := by decide +kernel
theorem d13_28 : decode jdk_2097_method_29_code 28 = .ok (.l2i, 1) := by decide +kernel
theorem d13_29 : decode jdk_2097_method_29_code 29 = .ok (.aaload, 1) := by decide +kernel
theorem d13_30 : decode jdk_2097_method_29_code 30 = .ok (.areturn, 1) := by decide +kernel
theorem d13_37 : decode jdk_2097_method_29_code 37 = .ok (.lload_n 0, 1) := by decide +kernel
theorem d13_38 : decode jdk_2097_method_29_code 38 = .ok (.ldc2_w 351, 3) := by decide +kernel
theorem d13_41 : decode jdk_2097_method_29_code 41 = .ok (.lcmp, 1) := by decide +kernel
theorem d13_42 : decode jdk_2097_method_29_code 42 = .ok (.ifCond .lt 11, 3) := by decide +kernel
theorem d13_45 : decode jdk_2097_method_29_code 45 = .ok (.getstatic 353, 3) := by decide +kernel
theorem d13_48 : decode jdk_2097_method_29_code 48 = .ok (.lload_n 0, 1) := by decide +kernel
theorem d13_49 : decode jdk_2097_method_29_code 49 = .ok (.lneg, 1) := by decide +kernel
theorem d13_50 : decode jdk_2097_method_29_code 50 = .ok (.l2i, 1) := by decide +kernel
theorem d13_51 : decode jdk_2097_method_29_code 51 = .ok (.aaload, 1) := by decide +kernel
theorem d13_52 : decode jdk_2097_method_29_code 52 = .ok (.areturn, 1) := by decide +kernel
theorem own_ef26_RR (m : MethodId) (x0 : Addr) (x1 : Addr) : entryFrame m #[.ref x0, .ref x1] 2 = mkF m 0 #[rv x0, rv x1] [] := by first | (simp [entryFrame, mkF, argsToLocals, Value.category]; done) | rfl
theorem d26_0 : decode jdk_2097_method_121_code 0 = .ok (.aload_n 0, 1) := by decide +kernel
theorem d26_1 : decode jdk_2097_method_121_code 1 = .ok (.getfield 32, 3) := by decide +kernel
theorem d26_4 : decode jdk_2097_method_121_code 4 = .ok (.aload_n 1, 1) := by decide +kernel
theorem d26_5 : decode jdk_2097_method_121_code 5 = .ok (.getfield 32, 3) := by decide +kernel
theorem d26_8 : decode jdk_2097_method_121_code 8 = .ok (.if_icmp .ne 50, 3) := by decide +kernel
theorem d26_11 : decode jdk_2097_method_121_code 11 = .ok (.aload_n 0, 1) := by decide +kernel
theorem d26_12 : decode jdk_2097_method_121_code 12 = .ok (.getfield 32, 3) := by decide +kernel
theorem d26_15 : decode jdk_2097_method_121_code 15 = .ok (.lookupswitch 41 #[(-1, 33), (1, 25)], 25) := by decide +kernel
theorem d26_40 : decode jdk_2097_method_121_code 40 = .ok (.aload_n 0, 1) := by decide +kernel
theorem d26_41 : decode jdk_2097_method_121_code 41 = .ok (.aload_n 1, 1) := by decide +kernel
theorem d26_42 : decode jdk_2097_method_121_code 42 = .ok (.invokevirtual 365, 3) := by decide +kernel
theorem d26_45 : decode jdk_2097_method_121_code 45 = .ok (.goto 12, 3) := by decide +kernel
theorem d26_57 : decode jdk_2097_method_121_code 57 = .ok (.ireturn, 1) := by decide +kernel
theorem own_pn3 : plainName "java/lang/Long" = true := by first | (simp [plainName, overriddenIn]; done) | decide +kernel
theorem own_ef9_JJ (m : MethodId) (x0 : Int64) (x1 : Int64) : entryFrame m #[.long x0, .long x1] 4 = mkF m 0 #[.val (.long x0), .second, .val (.long x1), .second] [] := by first | (simp [entryFrame, mkF, argsToLocals, Value.category]; done) | rfl
theorem d9_0 : decode jdk_35_method_42_code 0 = .ok (.lload_n 0, 1) := by decide +kernel
theorem d9_1 : decode jdk_35_method_42_code 1 = .ok (.lload_n 2, 1) := by decide +kernel
theorem d9_2 : decode jdk_35_method_42_code 2 = .ok (.lcmp, 1) := by decide +kernel
theorem d9_3 : decode jdk_35_method_42_code 3 = .ok (.ifCond .ge 7, 3) := by decide +kernel
theorem d9_10 : decode jdk_35_method_42_code 10 = .ok (.lload_n 0, 1) := by decide +kernel
theorem d9_11 : decode jdk_35_method_42_code 11 = .ok (.lload_n 2, 1) := by decide +kernel
theorem d9_12 : decode jdk_35_method_42_code 12 = .ok (.lcmp, 1) := by decide +kernel
theorem d9_13 : decode jdk_35_method_42_code 13 = .ok (.ifCond .ne 7, 3) := by decide +kernel
theorem d9_16 : decode jdk_35_method_42_code 16 = .ok (.iconst 0, 1) := by decide +kernel
theorem d9_17 : decode jdk_35_method_42_code 17 = .ok (.goto 4, 3) := by decide +kernel
theorem d9_21 : decode jdk_35_method_42_code 21 = .ok (.ireturn, 1) := by decide +kernel
theorem own_pn4 : plainName "com/example/pactum/pactum/admission/ExactSum" = true := by first | (simp [plainName, overriddenIn]; done) | decide +kernel
theorem own_ef1_RJ (m : MethodId) (x0 : Addr) (x1 : Int64) : entryFrame m #[.ref x0, .long x1] 3 = mkF m 0 #[rv x0, .val (.long x1), .second] [] := by first | (simp [entryFrame, mkF, argsToLocals, Value.category]; done) | rfl
theorem d1_0 : decode prog_25_method_2_code 0 = .ok (.aload_n 0, 1) := by decide +kernel
theorem d1_1 : decode prog_25_method_2_code 1 = .ok (.invokespecial 1, 3) := by decide +kernel
theorem d1_4 : decode prog_25_method_2_code 4 = .ok (.aload_n 0, 1) := by decide +kernel
theorem d1_5 : decode prog_25_method_2_code 5 = .ok (.lload_n 1, 1) := by decide +kernel
theorem d1_6 : decode prog_25_method_2_code 6 = .ok (.putfield 7, 3) := by decide +kernel
theorem d1_9 : decode prog_25_method_2_code 9 = .ok (.return_, 1) := by decide +kernel
theorem own_ef3_R (m : MethodId) (x0 : Addr) : entryFrame m #[.ref x0] 1 = mkF m 0 #[rv x0] [] := by first | (simp [entryFrame, mkF, argsToLocals, Value.category]; done) | rfl
theorem d3_0 : decode prog_25_method_1_code 0 = .ok (.aload_n 0, 1) := by decide +kernel
theorem d3_1 : decode prog_25_method_1_code 1 = .ok (.invokespecial 1, 3) := by decide +kernel
theorem d3_4 : decode prog_25_method_1_code 4 = .ok (.return_, 1) := by decide +kernel
theorem own_ef4_RJ (m : MethodId) (x0 : Addr) (x1 : Int64) : entryFrame m #[.ref x0, .long x1] 5 = mkF m 0 #[rv x0, .val (.long x1), .second, .unset, .unset] [] := by first | (simp [entryFrame, mkF, argsToLocals, Value.category]; done) | rfl
theorem d4_0 : decode prog_25_method_10_code 0 = .ok (.aload_n 0, 1) := by decide +kernel
theorem d4_1 : decode prog_25_method_10_code 1 = .ok (.getfield 7, 3) := by decide +kernel
theorem d4_4 : decode prog_25_method_10_code 4 = .ok (.lload_n 1, 1) := by decide +kernel
theorem d4_5 : decode prog_25_method_10_code 5 = .ok (.ladd, 1) := by decide +kernel
theorem d4_6 : decode prog_25_method_10_code 6 = .ok (.lstore_n 3, 1) := by decide +kernel
theorem d4_7 : decode prog_25_method_10_code 7 = .ok (.aload_n 0, 1) := by decide +kernel
theorem d4_8 : decode prog_25_method_10_code 8 = .ok (.getfield 13, 3) := by decide +kernel
theorem d4_11 : decode prog_25_method_10_code 11 = .ok (.ifnonnull 26, 3) := by decide +kernel
theorem d4_14 : decode prog_25_method_10_code 14 = .ok (.aload_n 0, 1) := by decide +kernel
theorem d4_15 : decode prog_25_method_10_code 15 = .ok (.getfield 7, 3) := by decide +kernel
theorem d4_18 : decode prog_25_method_10_code 18 = .ok (.lload_n 3, 1) := by decide +kernel
theorem d4_19 : decode prog_25_method_10_code 19 = .ok (.lxor, 1) := by decide +kernel
theorem d4_20 : decode prog_25_method_10_code 20 = .ok (.lload_n 1, 1) := by decide +kernel
theorem d4_21 : decode prog_25_method_10_code 21 = .ok (.lload_n 3, 1) := by decide +kernel
theorem d4_22 : decode prog_25_method_10_code 22 = .ok (.lxor, 1) := by decide +kernel
theorem d4_23 : decode prog_25_method_10_code 23 = .ok (.land, 1) := by decide +kernel
theorem d4_24 : decode prog_25_method_10_code 24 = .ok (.lconst 0, 1) := by decide +kernel
theorem d4_25 : decode prog_25_method_10_code 25 = .ok (.lcmp, 1) := by decide +kernel
theorem d4_26 : decode prog_25_method_10_code 26 = .ok (.ifCond .lt 11, 3) := by decide +kernel
theorem d4_29 : decode prog_25_method_10_code 29 = .ok (.aload_n 0, 1) := by decide +kernel
theorem d4_30 : decode prog_25_method_10_code 30 = .ok (.lload_n 3, 1) := by decide +kernel
theorem d4_31 : decode prog_25_method_10_code 31 = .ok (.putfield 7, 3) := by decide +kernel
theorem d4_34 : decode prog_25_method_10_code 34 = .ok (.goto 18, 3) := by decide +kernel
theorem d4_52 : decode prog_25_method_10_code 52 = .ok (.return_, 1) := by decide +kernel
theorem own_ef5_RR (m : MethodId) (x0 : Addr) (x1 : Addr) : entryFrame m #[.ref x0, .ref x1] 2 = mkF m 0 #[rv x0, rv x1] [] := by first | (simp [entryFrame, mkF, argsToLocals, Value.category]; done) | rfl
theorem d5_0 : decode prog_25_method_4_code 0 = .ok (.aload_n 0, 1) := by decide +kernel
theorem d5_1 : decode prog_25_method_4_code 1 = .ok (.aload_n 1, 1) := by decide +kernel
theorem d5_2 : decode prog_25_method_4_code 2 = .ok (.getfield 7, 3) := by decide +kernel
theorem d5_5 : decode prog_25_method_4_code 5 = .ok (.putfield 7, 3) := by decide +kernel
theorem d5_8 : decode prog_25_method_4_code 8 = .ok (.aload_n 0, 1) := by decide +kernel
theorem d5_9 : decode prog_25_method_4_code 9 = .ok (.aload_n 1, 1) := by decide +kernel
theorem d5_10 : decode prog_25_method_4_code 10 = .ok (.getfield 13, 3) := by decide +kernel
theorem d5_13 : decode prog_25_method_4_code 13 = .ok (.putfield 13, 3) := by decide +kernel
theorem d5_16 : decode prog_25_method_4_code 16 = .ok (.return_, 1) := by decide +kernel
theorem own_ef6_R (m : MethodId) (x0 : Addr) : entryFrame m #[.ref x0] 1 = mkF m 0 #[rv x0] [] := by first | (simp [entryFrame, mkF, argsToLocals, Value.category]; done) | rfl
theorem d6_0 : decode prog_25_method_5_code 0 = .ok (.aload_n 0, 1) := by decide +kernel
theorem d6_1 : decode prog_25_method_5_code 1 = .ok (.getfield 13, 3) := by decide +kernel
theorem d6_4 : decode prog_25_method_5_code 4 = .ok (.ifnonnull 7, 3) := by decide +kernel
theorem d6_7 : decode prog_25_method_5_code 7 = .ok (.iconst 1, 1) := by decide +kernel
theorem d6_8 : decode prog_25_method_5_code 8 = .ok (.goto 4, 3) := by decide +kernel
theorem d6_12 : decode prog_25_method_5_code 12 = .ok (.ireturn, 1) := by decide +kernel
theorem d6_11 : decode prog_25_method_5_code 11 = .ok (.iconst 0, 1) := by decide +kernel
theorem own_ef7_R (m : MethodId) (x0 : Addr) : entryFrame m #[.ref x0] 1 = mkF m 0 #[rv x0] [] := by first | (simp [entryFrame, mkF, argsToLocals, Value.category]; done) | rfl
theorem d7_0 : decode prog_25_method_6_code 0 = .ok (.aload_n 0, 1) := by decide +kernel
theorem d7_1 : decode prog_25_method_6_code 1 = .ok (.getfield 7, 3) := by decide +kernel
theorem d7_4 : decode prog_25_method_6_code 4 = .ok (.lreturn, 1) := by decide +kernel
theorem own_ef12_R (m : MethodId) (x0 : Addr) : entryFrame m #[.ref x0] 1 = mkF m 0 #[rv x0] [] := by first | (simp [entryFrame, mkF, argsToLocals, Value.category]; done) | rfl
theorem d12_0 : decode prog_25_method_7_code 0 = .ok (.aload_n 0, 1) := by decide +kernel
theorem d12_1 : decode prog_25_method_7_code 1 = .ok (.getfield 13, 3) := by decide +kernel
theorem d12_4 : decode prog_25_method_7_code 4 = .ok (.ifnonnull 13, 3) := by decide +kernel
theorem d12_7 : decode prog_25_method_7_code 7 = .ok (.aload_n 0, 1) := by decide +kernel
theorem d12_8 : decode prog_25_method_7_code 8 = .ok (.getfield 7, 3) := by decide +kernel
theorem d12_11 : decode prog_25_method_7_code 11 = .ok (.invokestatic 17, 3) := by decide +kernel
theorem own_pd9 : parseMethodDescriptor "(J)Ljava/math/BigInteger;" = some ⟨[.long], some (.object "java/math/BigInteger")⟩ := by decide +kernel
theorem d12_14 : decode prog_25_method_7_code 14 = .ok (.goto 7, 3) := by decide +kernel
theorem d12_21 : decode prog_25_method_7_code 21 = .ok (.areturn, 1) := by decide +kernel
theorem d12_17 : decode prog_25_method_7_code 17 = .ok (.aload_n 0, 1) := by decide +kernel
theorem d12_18 : decode prog_25_method_7_code 18 = .ok (.getfield 13, 3) := by decide +kernel
theorem own_ef8_RR (m : MethodId) (x0 : Addr) (x1 : Addr) : entryFrame m #[.ref x0, .ref x1] 2 = mkF m 0 #[rv x0, rv x1] [] := by first | (simp [entryFrame, mkF, argsToLocals, Value.category]; done) | rfl
theorem d8_0 : decode prog_25_method_9_code 0 = .ok (.aload_n 0, 1) := by decide +kernel
theorem d8_1 : decode prog_25_method_9_code 1 = .ok (.getfield 13, 3) := by decide +kernel
theorem d8_4 : decode prog_25_method_9_code 4 = .ok (.ifnonnull 24, 3) := by decide +kernel
theorem d8_7 : decode prog_25_method_9_code 7 = .ok (.aload_n 1, 1) := by decide +kernel
theorem d8_8 : decode prog_25_method_9_code 8 = .ok (.getfield 13, 3) := by decide +kernel
theorem d8_11 : decode prog_25_method_9_code 11 = .ok (.ifnonnull 17, 3) := by decide +kernel
theorem d8_14 : decode prog_25_method_9_code 14 = .ok (.aload_n 0, 1) := by decide +kernel
theorem d8_15 : decode prog_25_method_9_code 15 = .ok (.getfield 7, 3) := by decide +kernel
theorem d8_18 : decode prog_25_method_9_code 18 = .ok (.aload_n 1, 1) := by decide +kernel
theorem d8_19 : decode prog_25_method_9_code 19 = .ok (.getfield 7, 3) := by decide +kernel
theorem d8_22 : decode prog_25_method_9_code 22 = .ok (.invokestatic 32, 3) := by decide +kernel
theorem own_pd10 : parseMethodDescriptor "(JJ)I" = some ⟨[.long, .long], some .int⟩ := by decide +kernel
theorem d8_25 : decode prog_25_method_9_code 25 = .ok (.goto 14, 3) := by decide +kernel
theorem d8_39 : decode prog_25_method_9_code 39 = .ok (.ireturn, 1) := by decide +kernel
theorem d8_28 : decode prog_25_method_9_code 28 = .ok (.aload_n 0, 1) := by decide +kernel
theorem d8_29 : decode prog_25_method_9_code 29 = .ok (.invokevirtual 36, 3) := by decide +kernel
theorem own_pd11 : parseMethodDescriptor "()Ljava/math/BigInteger;" = some ⟨[], some (.object "java/math/BigInteger")⟩ := by decide +kernel
theorem d8_32 : decode prog_25_method_9_code 32 = .ok (.aload_n 1, 1) := by decide +kernel
theorem d8_33 : decode prog_25_method_9_code 33 = .ok (.invokevirtual 36, 3) := by decide +kernel
theorem d8_36 : decode prog_25_method_9_code 36 = .ok (.invokevirtual 39, 3) := by decide +kernel
theorem own_ef10_RJJ (m : MethodId) (x0 : Addr) (x1 : Int64) (x2 : Int64) : entryFrame m #[.ref x0, .long x1, .long x2] 9 = mkF m 0 #[rv x0, .val (.long x1), .second, .val (.long x2), .second, .unset, .unset, .unset, .unset] [] := by first | (simp [entryFrame, mkF, argsToLocals, Value.category]; done) | rfl
theorem d10_0 : decode prog_25_method_11_code 0 = .ok (.lload_n 1, 1) := by decide +kernel
theorem d10_1 : decode prog_25_method_11_code 1 = .ok (.lload_n 3, 1) := by decide +kernel
theorem d10_2 : decode prog_25_method_11_code 2 = .ok (.lmul, 1) := by decide +kernel
theorem d10_3 : decode prog_25_method_11_code 3 = .ok (.lstore 5, 2) := by decide +kernel
theorem d10_5 : decode prog_25_method_11_code 5 = .ok (.lload_n 1, 1) := by decide +kernel
theorem d10_6 : decode prog_25_method_11_code 6 = .ok (.lload_n 3, 1) := by decide +kernel
theorem d10_7 : decode prog_25_method_11_code 7 = .ok (.invokestatic 47, 3) := by decide +kernel
theorem own_pd12 : parseMethodDescriptor "(JJ)J" = some ⟨[.long, .long], some .long⟩ := by decide +kernel
theorem d10_10 : decode prog_25_method_11_code 10 = .ok (.lstore 7, 2) := by decide +kernel
theorem d10_12 : decode prog_25_method_11_code 12 = .ok (.lload 7, 2) := by decide +kernel
theorem d10_14 : decode prog_25_method_11_code 14 = .ok (.lload 5, 2) := by decide +kernel
theorem d10_16 : decode prog_25_method_11_code 16 = .ok (.bipush 63, 2) := by decide +kernel
theorem d10_18 : decode prog_25_method_11_code 18 = .ok (.lshr, 1) := by decide +kernel
theorem d10_19 : decode prog_25_method_11_code 19 = .ok (.lcmp, 1) := by decide +kernel
theorem d10_20 : decode prog_25_method_11_code 20 = .ok (.ifCond .ne 12, 3) := by decide +kernel
theorem d10_32 : decode prog_25_method_11_code 32 = .ok (.aload_n 0, 1) := by decide +kernel
theorem d10_33 : decode prog_25_method_11_code 33 = .ok (.aload_n 0, 1) := by decide +kernel
theorem d10_34 : decode prog_25_method_11_code 34 = .ok (.invokevirtual 36, 3) := by decide +kernel
theorem d10_37 : decode prog_25_method_11_code 37 = .ok (.lload_n 1, 1) := by decide +kernel
theorem d10_38 : decode prog_25_method_11_code 38 = .ok (.invokestatic 17, 3) := by decide +kernel
theorem d10_41 : decode prog_25_method_11_code 41 = .ok (.lload_n 3, 1) := by decide +kernel
theorem d10_42 : decode prog_25_method_11_code 42 = .ok (.invokestatic 17, 3) := by decide +kernel
theorem d10_45 : decode prog_25_method_11_code 45 = .ok (.invokevirtual 56, 3) := by decide +kernel
theorem own_pd13 : parseMethodDescriptor "(Ljava/math/BigInteger;)Ljava/math/BigInteger;" = some ⟨[(.object "java/math/BigInteger")], some (.object "java/math/BigInteger")⟩ := by decide +kernel
theorem d10_48 : decode prog_25_method_11_code 48 = .ok (.invokevirtual 43, 3) := by decide +kernel
theorem d10_51 : decode prog_25_method_11_code 51 = .ok (.putfield 13, 3) := by decide +kernel
theorem d10_54 : decode prog_25_method_11_code 54 = .ok (.return_, 1) := by decide +kernel
theorem own_pn5 : plainName "com/example/pactum/pactum/admission/ExactSumSetPinLaw" = true := by first | (simp [plainName, overriddenIn]; done) | decide +kernel
theorem own_ef0_JJI (m : MethodId) (x0 : Int64) (x1 : Int64) (x2 : Int32) : entryFrame m #[.long x0, .long x1, .int x2] maxLocals = mkF m 0 #[.val (.long x0), .second, .val (.long x1), .second, iv x2, .unset, .unset, .unset, .unset, .unset] [] := by first | (simp [entryFrame, mkF, argsToLocals, Value.category, maxLocals]; done) | rfl
theorem own_pd14 : parseMethodDescriptor "(JJ)V" = some ⟨[.long, .long], none⟩ := by decide +kernel
theorem own_pd15 : parseMethodDescriptor "(Lcom/example/pactum/pactum/admission/ExactSum;)V" = some ⟨[(.object "com/example/pactum/pactum/admission/ExactSum")], none⟩ := by decide +kernel
theorem own_pd16 : parseMethodDescriptor "()Z" = some ⟨[], some .boolean⟩ := by decide +kernel
theorem own_pd17 : parseMethodDescriptor "()J" = some ⟨[], some .long⟩ := by decide +kernel
theorem own_pd18 : parseMethodDescriptor "(Lcom/example/pactum/pactum/admission/ExactSum;)I" = some ⟨[(.object "com/example/pactum/pactum/admission/ExactSum")], some .int⟩ := by decide +kernel
def Q_rm_number (Z : State) (ao : Addr) (h0 : Heap) (n0 : Nat) (v : Option Value) (h : Heap) (L : List Loc) : Prop := v = none ∧ Fr n0 L ∧ h = h0
set_option maxRecDepth 65536 in
set_option maxHeartbeats 40000000 in
theorem rm_number (l : Launch) (Z : State) (a0 : Array Value) (hw : ∀ d ∈ tables_1, d.before a0 Z = true) (ws : List Jvm.Cond) (ao : Addr) (h0 : Heap) (n0 : Nat) (Z0 : n0 ≤ h0.size) :
  MetFree l (⟨"java/lang/Number", "<init>", "()V"⟩ : MethodName) (head1 (Jvm.Cond.code (⟨"java/lang/Number", "<init>", "()V"⟩ : MethodName) jdk_18_method_1_code 1 none :: ws) ({ frames := 1, cells := 0, slots := 0, locals := 12 } : Room)) (fun a U => a = #[.ref ao] ∧ Z.Warmed39 U.vm ∧ U.heap = h0) (fun _ _ _ _ _ => True) (fun _ U o U' => ∃ v L, o = .returned v ∧ Q_rm_number Z ao h0 n0 v U'.heap L ∧ FrameEnd U o U' L ({ frames := 1, cells := 0, slots := 0, locals := 12 } : Room).cells ({ frames := 1, cells := 0, slots := 0, locals := 12 } : Room).slots) := by
 refine MetFree.of_bodySF (plainFor_of_name own_pn0) hisR ?_
 intro p e s m args below meth c s₁ Bd hml0 hP hK
 obtain ⟨rfl, hZ, hh⟩ := hP
 have hx := Bd.exec
 have hby := Bd.bytes
 have hml : c.maxLocals = 1 := hml0
 have hown : s.vm.findClass "java/lang/Number" = some m.cls := findClass_of_methodNamed Bd.named
 have hnm := (name_of_methodNamed Bd.named Bd.method).1
 have X0 : Stand p l e ({ frames := 1, cells := 0, slots := 0, locals := 12 } : Room) s m #[.ref ao] below meth c s₁ [] 0 0 := Stand.of_body Bd
 have e0 : s₁.heap = h0 := by rw [← hh, Bd.state]; rfl
 have N0 := Fr.nil n0
 obtain ⟨B0, hB0⟩ : ∃ B, B = (s₁.setTop (entryFrame m #[.ref ao] 1)) := ⟨_, rfl⟩
 have st0 : own_K p e below s₁ m 0 #[rv ao] [] B0 := fun t kk0 => hB0 ▸ castTop (own_ef15_R m ao) kk0
 have st1 : own_K p e below s₁ m 1 #[rv ao] [.ref ao] B0 := fun t kt => st0 t (by
  refine XS.aloadN X0.here hx rfl (hb hby d15_0) rfl rfl ?_
  exact kt)
 obtain ⟨T2, X2, e2, ls2⟩ := initO X0 hx hZ hown (own_w hw 79 rfl) (own_w hw 7 rfl) (own_w hw 8 rfl) e0 (g := (mkF m 1 #[rv ao] [.ref ao])) rfl (by rw [hml]; rfl) rfl (hb hby d15_1) (by decide) (W := 0) (by show 2 * 0 + _ ≤ _; exact Nat.le_of_eq rfl) (by decide)
 have st3 := fun t kt => st1 t (ls2 t kt)
 obtain ⟨fs, hr, hrun, hended, hW, hsame⟩ := X2.leave (v := none) (fun _ => rfl)
 subst hB0
 refine ⟨_, _, st3 _ ?_, hrun, hended, _, _, rfl, ?_, ⟨_, rfl⟩, hW, hsame.mono (by decide) (by decide)⟩
 ·exact X2.returnOut hx Bd.returns (hb hby d15_4) hr
 ·show Q_rm_number Z ao h0 n0 _ T2.heap _
  rw [e2]
  exact ⟨rfl, N0, rfl⟩
def Q_rm_mh (Z : State)  (h0 : Heap) (n0 : Nat) (v : Option Value) (h : Heap) (L : List Loc) : Prop := v = some (.long 4611686018427387903) ∧ Fr n0 L ∧ h = h0
set_option maxRecDepth 65536 in
set_option maxHeartbeats 40000000 in
theorem rm_mh (l : Launch) (Z : State) (a0 : Array Value) (hw : ∀ d ∈ tables_1, d.before a0 Z = true) (ws : List Jvm.Cond)  (h0 : Heap) (n0 : Nat) (Z0 : n0 ≤ h0.size) :
  MetFree l (⟨"java/lang/Math", "multiplyHigh", "(JJ)J"⟩ : MethodName) (head1 (Jvm.Cond.code (⟨"java/lang/Math", "multiplyHigh", "(JJ)J"⟩ : MethodName) jdk_29_method_45_code 20 (some .long) :: ws) ({ frames := 0, cells := 0, slots := 0, locals := 0 } : Room)) (fun a U => a = #[.long (9223372036854775807 : Int64), .long (9223372036854775807 : Int64)] ∧ Z.Warmed39 U.vm ∧ U.heap = h0) (fun _ _ _ _ _ => True) (fun _ U o U' => ∃ v L, o = .returned v ∧ Q_rm_mh Z  h0 n0 v U'.heap L ∧ FrameEnd U o U' L ({ frames := 0, cells := 0, slots := 0, locals := 0 } : Room).cells ({ frames := 0, cells := 0, slots := 0, locals := 0 } : Room).slots) := by
 refine MetFree.of_bodySF (Jvm.Free.JP.mathPlain rfl (by decide +kernel)) hisR ?_
 intro p e s m args below meth c s₁ Bd hml0 hP hK
 obtain ⟨rfl, hZ, hh⟩ := hP
 have hx := Bd.exec
 have hby := Bd.bytes
 have hml : c.maxLocals = 20 := hml0
 have hown : s.vm.findClass "java/lang/Math" = some m.cls := findClass_of_methodNamed Bd.named
 have hnm := (name_of_methodNamed Bd.named Bd.method).1
 have X0 : Stand p l e ({ frames := 0, cells := 0, slots := 0, locals := 0 } : Room) s m #[.long (9223372036854775807 : Int64), .long (9223372036854775807 : Int64)] below meth c s₁ [] 0 0 := Stand.of_body Bd
 have e0 : s₁.heap = h0 := by rw [← hh, Bd.state]; rfl
 have N0 := Fr.nil n0
 obtain ⟨B0, hB0⟩ : ∃ B, B = (s₁.setTop (entryFrame m #[.long (9223372036854775807 : Int64), .long (9223372036854775807 : Int64)] 20)) := ⟨_, rfl⟩
 have st0 : own_K p e below s₁ m 0 #[.val (.long (9223372036854775807 : Int64)), .second, .val (.long (9223372036854775807 : Int64)), .second, .unset, .unset, .unset, .unset, .unset, .unset, .unset, .unset, .unset, .unset, .unset, .unset, .unset, .unset, .unset, .unset] [] B0 := fun t kk0 => hB0 ▸ castTop (own_ef11_JJ m (9223372036854775807 : Int64) (9223372036854775807 : Int64)) kk0
 have st1 : own_K p e below s₁ m 85 #[.val (.long (9223372036854775807 : Int64)), .second, .val (.long (9223372036854775807 : Int64)), .second, .val (.long ((9223372036854775807 : Int64) >>> ((32 : Int32) &&& 0x3f).toInt64)), .second, .val (.long ((9223372036854775807 : Int64) &&& (4294967295 : Int64))), .second, .val (.long ((9223372036854775807 : Int64) >>> ((32 : Int32) &&& 0x3f).toInt64)), .second, .val (.long ((9223372036854775807 : Int64) &&& (4294967295 : Int64))), .second, .val (.long (((9223372036854775807 : Int64) &&& (4294967295 : Int64)) * ((9223372036854775807 : Int64) &&& (4294967295 : Int64)))), .second, .val (.long ((((9223372036854775807 : Int64) >>> ((32 : Int32) &&& 0x3f).toInt64) * ((9223372036854775807 : Int64) &&& (4294967295 : Int64))) + (((((9223372036854775807 : Int64) &&& (4294967295 : Int64)) * ((9223372036854775807 : Int64) &&& (4294967295 : Int64))).toUInt64 >>> ((32 : Int32) &&& 0x3f).toInt64.toUInt64).toInt64))), .second, .val (.long ((((((9223372036854775807 : Int64) >>> ((32 : Int32) &&& 0x3f).toInt64) * ((9223372036854775807 : Int64) &&& (4294967295 : Int64))) + (((((9223372036854775807 : Int64) &&& (4294967295 : Int64)) * ((9223372036854775807 : Int64) &&& (4294967295 : Int64))).toUInt64 >>> ((32 : Int32) &&& 0x3f).toInt64.toUInt64).toInt64)) &&& (4294967295 : Int64)) + (((9223372036854775807 : Int64) &&& (4294967295 : Int64)) * ((9223372036854775807 : Int64) >>> ((32 : Int32) &&& 0x3f).toInt64)))), .second, .val (.long (((((9223372036854775807 : Int64) >>> ((32 : Int32) &&& 0x3f).toInt64) * ((9223372036854775807 : Int64) &&& (4294967295 : Int64))) + (((((9223372036854775807 : Int64) &&& (4294967295 : Int64)) * ((9223372036854775807 : Int64) &&& (4294967295 : Int64))).toUInt64 >>> ((32 : Int32) &&& 0x3f).toInt64.toUInt64).toInt64)) >>> ((32 : Int32) &&& 0x3f).toInt64)), .second] [.long (4611686018427387903 : Int64)] B0 := fun t kt => st0 t (by
  refine XS.lloadN X0.here hx rfl (hb hby d11_0) rfl ?_
  refine XS.bipush X0.here hx rfl (hb hby d11_1) ?_
  refine XS.lshr X0.here hx rfl (hb hby d11_3) rfl ?_
  refine XS.lstore X0.here hx rfl (hb hby d11_4) rfl (l' := #[.val (.long (9223372036854775807 : Int64)), .second, .val (.long (9223372036854775807 : Int64)), .second, .val (.long ((9223372036854775807 : Int64) >>> ((32 : Int32) &&& 0x3f).toInt64)), .second, .unset, .unset, .unset, .unset, .unset, .unset, .unset, .unset, .unset, .unset, .unset, .unset, .unset, .unset]) rfl ?_
  refine XS.lloadN X0.here hx rfl (hb hby d11_6) rfl ?_
  show own_At p e below s₁ m 7 #[.val (.long (9223372036854775807 : Int64)), .second, .val (.long (9223372036854775807 : Int64)), .second, .val (.long ((9223372036854775807 : Int64) >>> ((32 : Int32) &&& 0x3f).toInt64)), .second, .unset, .unset, .unset, .unset, .unset, .unset, .unset, .unset, .unset, .unset, .unset, .unset, .unset, .unset] [.long (9223372036854775807 : Int64)] _
  refine X0.ldc2Long hx hown (mvT hZ (own_w hw 55 rfl)) (g := (mkF m 7 #[.val (.long (9223372036854775807 : Int64)), .second, .val (.long (9223372036854775807 : Int64)), .second, .val (.long ((9223372036854775807 : Int64) >>> ((32 : Int32) &&& 0x3f).toInt64)), .second, .unset, .unset, .unset, .unset, .unset, .unset, .unset, .unset, .unset, .unset, .unset, .unset, .unset, .unset] [.long (9223372036854775807 : Int64)])) rfl (hb hby d11_7) _ ?_
  refine XS.land X0.here hx rfl (hb hby d11_10) rfl ?_
  refine XS.lstore X0.here hx rfl (hb hby d11_11) rfl (l' := #[.val (.long (9223372036854775807 : Int64)), .second, .val (.long (9223372036854775807 : Int64)), .second, .val (.long ((9223372036854775807 : Int64) >>> ((32 : Int32) &&& 0x3f).toInt64)), .second, .val (.long ((9223372036854775807 : Int64) &&& (4294967295 : Int64))), .second, .unset, .unset, .unset, .unset, .unset, .unset, .unset, .unset, .unset, .unset, .unset, .unset]) rfl ?_
  refine XS.lloadN X0.here hx rfl (hb hby d11_13) rfl ?_
  refine XS.bipush X0.here hx rfl (hb hby d11_14) ?_
  refine XS.lshr X0.here hx rfl (hb hby d11_16) rfl ?_
  refine XS.lstore X0.here hx rfl (hb hby d11_17) rfl (l' := #[.val (.long (9223372036854775807 : Int64)), .second, .val (.long (9223372036854775807 : Int64)), .second, .val (.long ((9223372036854775807 : Int64) >>> ((32 : Int32) &&& 0x3f).toInt64)), .second, .val (.long ((9223372036854775807 : Int64) &&& (4294967295 : Int64))), .second, .val (.long ((9223372036854775807 : Int64) >>> ((32 : Int32) &&& 0x3f).toInt64)), .second, .unset, .unset, .unset, .unset, .unset, .unset, .unset, .unset, .unset, .unset]) rfl ?_
  refine XS.lloadN X0.here hx rfl (hb hby d11_19) rfl ?_
  show own_At p e below s₁ m 20 #[.val (.long (9223372036854775807 : Int64)), .second, .val (.long (9223372036854775807 : Int64)), .second, .val (.long ((9223372036854775807 : Int64) >>> ((32 : Int32) &&& 0x3f).toInt64)), .second, .val (.long ((9223372036854775807 : Int64) &&& (4294967295 : Int64))), .second, .val (.long ((9223372036854775807 : Int64) >>> ((32 : Int32) &&& 0x3f).toInt64)), .second, .unset, .unset, .unset, .unset, .unset, .unset, .unset, .unset, .unset, .unset] [.long (9223372036854775807 : Int64)] _
  refine X0.ldc2Long hx hown (mvT hZ (own_w hw 55 rfl)) (g := (mkF m 20 #[.val (.long (9223372036854775807 : Int64)), .second, .val (.long (9223372036854775807 : Int64)), .second, .val (.long ((9223372036854775807 : Int64) >>> ((32 : Int32) &&& 0x3f).toInt64)), .second, .val (.long ((9223372036854775807 : Int64) &&& (4294967295 : Int64))), .second, .val (.long ((9223372036854775807 : Int64) >>> ((32 : Int32) &&& 0x3f).toInt64)), .second, .unset, .unset, .unset, .unset, .unset, .unset, .unset, .unset, .unset, .unset] [.long (9223372036854775807 : Int64)])) rfl (hb hby d11_20) _ ?_
  refine XS.land X0.here hx rfl (hb hby d11_23) rfl ?_
  refine XS.lstore X0.here hx rfl (hb hby d11_24) rfl (l' := #[.val (.long (9223372036854775807 : Int64)), .second, .val (.long (9223372036854775807 : Int64)), .second, .val (.long ((9223372036854775807 : Int64) >>> ((32 : Int32) &&& 0x3f).toInt64)), .second, .val (.long ((9223372036854775807 : Int64) &&& (4294967295 : Int64))), .second, .val (.long ((9223372036854775807 : Int64) >>> ((32 : Int32) &&& 0x3f).toInt64)), .second, .val (.long ((9223372036854775807 : Int64) &&& (4294967295 : Int64))), .second, .unset, .unset, .unset, .unset, .unset, .unset, .unset, .unset]) rfl ?_
  refine XS.lload X0.here hx rfl (hb hby d11_26) rfl ?_
  refine XS.lload X0.here hx rfl (hb hby d11_28) rfl ?_
  refine XS.lmul X0.here hx rfl (hb hby d11_30) rfl ?_
  refine XS.lstore X0.here hx rfl (hb hby d11_31) rfl (l' := #[.val (.long (9223372036854775807 : Int64)), .second, .val (.long (9223372036854775807 : Int64)), .second, .val (.long ((9223372036854775807 : Int64) >>> ((32 : Int32) &&& 0x3f).toInt64)), .second, .val (.long ((9223372036854775807 : Int64) &&& (4294967295 : Int64))), .second, .val (.long ((9223372036854775807 : Int64) >>> ((32 : Int32) &&& 0x3f).toInt64)), .second, .val (.long ((9223372036854775807 : Int64) &&& (4294967295 : Int64))), .second, .val (.long (((9223372036854775807 : Int64) &&& (4294967295 : Int64)) * ((9223372036854775807 : Int64) &&& (4294967295 : Int64)))), .second, .unset, .unset, .unset, .unset, .unset, .unset]) rfl ?_
  refine XS.lload X0.here hx rfl (hb hby d11_33) rfl ?_
  refine XS.lload X0.here hx rfl (hb hby d11_35) rfl ?_
  refine XS.lmul X0.here hx rfl (hb hby d11_37) rfl ?_
  refine XS.lload X0.here hx rfl (hb hby d11_38) rfl ?_
  refine XS.bipush X0.here hx rfl (hb hby d11_40) ?_
  refine XS.lushr X0.here hx rfl (hb hby d11_42) rfl ?_
  refine XS.ladd X0.here hx rfl (hb hby d11_43) rfl ?_
  refine XS.lstore X0.here hx rfl (hb hby d11_44) rfl (l' := #[.val (.long (9223372036854775807 : Int64)), .second, .val (.long (9223372036854775807 : Int64)), .second, .val (.long ((9223372036854775807 : Int64) >>> ((32 : Int32) &&& 0x3f).toInt64)), .second, .val (.long ((9223372036854775807 : Int64) &&& (4294967295 : Int64))), .second, .val (.long ((9223372036854775807 : Int64) >>> ((32 : Int32) &&& 0x3f).toInt64)), .second, .val (.long ((9223372036854775807 : Int64) &&& (4294967295 : Int64))), .second, .val (.long (((9223372036854775807 : Int64) &&& (4294967295 : Int64)) * ((9223372036854775807 : Int64) &&& (4294967295 : Int64)))), .second, .val (.long ((((9223372036854775807 : Int64) >>> ((32 : Int32) &&& 0x3f).toInt64) * ((9223372036854775807 : Int64) &&& (4294967295 : Int64))) + (((((9223372036854775807 : Int64) &&& (4294967295 : Int64)) * ((9223372036854775807 : Int64) &&& (4294967295 : Int64))).toUInt64 >>> ((32 : Int32) &&& 0x3f).toInt64.toUInt64).toInt64))), .second, .unset, .unset, .unset, .unset]) rfl ?_
  refine XS.lload X0.here hx rfl (hb hby d11_46) rfl ?_
  show own_At p e below s₁ m 48 #[.val (.long (9223372036854775807 : Int64)), .second, .val (.long (9223372036854775807 : Int64)), .second, .val (.long ((9223372036854775807 : Int64) >>> ((32 : Int32) &&& 0x3f).toInt64)), .second, .val (.long ((9223372036854775807 : Int64) &&& (4294967295 : Int64))), .second, .val (.long ((9223372036854775807 : Int64) >>> ((32 : Int32) &&& 0x3f).toInt64)), .second, .val (.long ((9223372036854775807 : Int64) &&& (4294967295 : Int64))), .second, .val (.long (((9223372036854775807 : Int64) &&& (4294967295 : Int64)) * ((9223372036854775807 : Int64) &&& (4294967295 : Int64)))), .second, .val (.long ((((9223372036854775807 : Int64) >>> ((32 : Int32) &&& 0x3f).toInt64) * ((9223372036854775807 : Int64) &&& (4294967295 : Int64))) + (((((9223372036854775807 : Int64) &&& (4294967295 : Int64)) * ((9223372036854775807 : Int64) &&& (4294967295 : Int64))).toUInt64 >>> ((32 : Int32) &&& 0x3f).toInt64.toUInt64).toInt64))), .second, .unset, .unset, .unset, .unset] [(.long ((((9223372036854775807 : Int64) >>> ((32 : Int32) &&& 0x3f).toInt64) * ((9223372036854775807 : Int64) &&& (4294967295 : Int64))) + (((((9223372036854775807 : Int64) &&& (4294967295 : Int64)) * ((9223372036854775807 : Int64) &&& (4294967295 : Int64))).toUInt64 >>> ((32 : Int32) &&& 0x3f).toInt64.toUInt64).toInt64)))] _
  refine X0.ldc2Long hx hown (mvT hZ (own_w hw 55 rfl)) (g := (mkF m 48 #[.val (.long (9223372036854775807 : Int64)), .second, .val (.long (9223372036854775807 : Int64)), .second, .val (.long ((9223372036854775807 : Int64) >>> ((32 : Int32) &&& 0x3f).toInt64)), .second, .val (.long ((9223372036854775807 : Int64) &&& (4294967295 : Int64))), .second, .val (.long ((9223372036854775807 : Int64) >>> ((32 : Int32) &&& 0x3f).toInt64)), .second, .val (.long ((9223372036854775807 : Int64) &&& (4294967295 : Int64))), .second, .val (.long (((9223372036854775807 : Int64) &&& (4294967295 : Int64)) * ((9223372036854775807 : Int64) &&& (4294967295 : Int64)))), .second, .val (.long ((((9223372036854775807 : Int64) >>> ((32 : Int32) &&& 0x3f).toInt64) * ((9223372036854775807 : Int64) &&& (4294967295 : Int64))) + (((((9223372036854775807 : Int64) &&& (4294967295 : Int64)) * ((9223372036854775807 : Int64) &&& (4294967295 : Int64))).toUInt64 >>> ((32 : Int32) &&& 0x3f).toInt64.toUInt64).toInt64))), .second, .unset, .unset, .unset, .unset] [(.long ((((9223372036854775807 : Int64) >>> ((32 : Int32) &&& 0x3f).toInt64) * ((9223372036854775807 : Int64) &&& (4294967295 : Int64))) + (((((9223372036854775807 : Int64) &&& (4294967295 : Int64)) * ((9223372036854775807 : Int64) &&& (4294967295 : Int64))).toUInt64 >>> ((32 : Int32) &&& 0x3f).toInt64.toUInt64).toInt64)))])) rfl (hb hby d11_48) _ ?_
  refine XS.land X0.here hx rfl (hb hby d11_51) rfl ?_
  refine XS.lstore X0.here hx rfl (hb hby d11_52) rfl (l' := #[.val (.long (9223372036854775807 : Int64)), .second, .val (.long (9223372036854775807 : Int64)), .second, .val (.long ((9223372036854775807 : Int64) >>> ((32 : Int32) &&& 0x3f).toInt64)), .second, .val (.long ((9223372036854775807 : Int64) &&& (4294967295 : Int64))), .second, .val (.long ((9223372036854775807 : Int64) >>> ((32 : Int32) &&& 0x3f).toInt64)), .second, .val (.long ((9223372036854775807 : Int64) &&& (4294967295 : Int64))), .second, .val (.long (((9223372036854775807 : Int64) &&& (4294967295 : Int64)) * ((9223372036854775807 : Int64) &&& (4294967295 : Int64)))), .second, .val (.long ((((9223372036854775807 : Int64) >>> ((32 : Int32) &&& 0x3f).toInt64) * ((9223372036854775807 : Int64) &&& (4294967295 : Int64))) + (((((9223372036854775807 : Int64) &&& (4294967295 : Int64)) * ((9223372036854775807 : Int64) &&& (4294967295 : Int64))).toUInt64 >>> ((32 : Int32) &&& 0x3f).toInt64.toUInt64).toInt64))), .second, .val (.long (((((9223372036854775807 : Int64) >>> ((32 : Int32) &&& 0x3f).toInt64) * ((9223372036854775807 : Int64) &&& (4294967295 : Int64))) + (((((9223372036854775807 : Int64) &&& (4294967295 : Int64)) * ((9223372036854775807 : Int64) &&& (4294967295 : Int64))).toUInt64 >>> ((32 : Int32) &&& 0x3f).toInt64.toUInt64).toInt64)) &&& (4294967295 : Int64))), .second, .unset, .unset]) rfl ?_
  refine XS.lload X0.here hx rfl (hb hby d11_54) rfl ?_
  refine XS.bipush X0.here hx rfl (hb hby d11_56) ?_
  refine XS.lshr X0.here hx rfl (hb hby d11_58) rfl ?_
  refine XS.lstore X0.here hx rfl (hb hby d11_59) rfl (l' := #[.val (.long (9223372036854775807 : Int64)), .second, .val (.long (9223372036854775807 : Int64)), .second, .val (.long ((9223372036854775807 : Int64) >>> ((32 : Int32) &&& 0x3f).toInt64)), .second, .val (.long ((9223372036854775807 : Int64) &&& (4294967295 : Int64))), .second, .val (.long ((9223372036854775807 : Int64) >>> ((32 : Int32) &&& 0x3f).toInt64)), .second, .val (.long ((9223372036854775807 : Int64) &&& (4294967295 : Int64))), .second, .val (.long (((9223372036854775807 : Int64) &&& (4294967295 : Int64)) * ((9223372036854775807 : Int64) &&& (4294967295 : Int64)))), .second, .val (.long ((((9223372036854775807 : Int64) >>> ((32 : Int32) &&& 0x3f).toInt64) * ((9223372036854775807 : Int64) &&& (4294967295 : Int64))) + (((((9223372036854775807 : Int64) &&& (4294967295 : Int64)) * ((9223372036854775807 : Int64) &&& (4294967295 : Int64))).toUInt64 >>> ((32 : Int32) &&& 0x3f).toInt64.toUInt64).toInt64))), .second, .val (.long (((((9223372036854775807 : Int64) >>> ((32 : Int32) &&& 0x3f).toInt64) * ((9223372036854775807 : Int64) &&& (4294967295 : Int64))) + (((((9223372036854775807 : Int64) &&& (4294967295 : Int64)) * ((9223372036854775807 : Int64) &&& (4294967295 : Int64))).toUInt64 >>> ((32 : Int32) &&& 0x3f).toInt64.toUInt64).toInt64)) &&& (4294967295 : Int64))), .second, .val (.long (((((9223372036854775807 : Int64) >>> ((32 : Int32) &&& 0x3f).toInt64) * ((9223372036854775807 : Int64) &&& (4294967295 : Int64))) + (((((9223372036854775807 : Int64) &&& (4294967295 : Int64)) * ((9223372036854775807 : Int64) &&& (4294967295 : Int64))).toUInt64 >>> ((32 : Int32) &&& 0x3f).toInt64.toUInt64).toInt64)) >>> ((32 : Int32) &&& 0x3f).toInt64)), .second]) rfl ?_
  refine XS.lload X0.here hx rfl (hb hby d11_61) rfl ?_
  refine XS.lload X0.here hx rfl (hb hby d11_63) rfl ?_
  refine XS.lload X0.here hx rfl (hb hby d11_65) rfl ?_
  refine XS.lmul X0.here hx rfl (hb hby d11_67) rfl ?_
  refine XS.ladd X0.here hx rfl (hb hby d11_68) rfl ?_
  refine XS.lstore X0.here hx rfl (hb hby d11_69) rfl (l' := #[.val (.long (9223372036854775807 : Int64)), .second, .val (.long (9223372036854775807 : Int64)), .second, .val (.long ((9223372036854775807 : Int64) >>> ((32 : Int32) &&& 0x3f).toInt64)), .second, .val (.long ((9223372036854775807 : Int64) &&& (4294967295 : Int64))), .second, .val (.long ((9223372036854775807 : Int64) >>> ((32 : Int32) &&& 0x3f).toInt64)), .second, .val (.long ((9223372036854775807 : Int64) &&& (4294967295 : Int64))), .second, .val (.long (((9223372036854775807 : Int64) &&& (4294967295 : Int64)) * ((9223372036854775807 : Int64) &&& (4294967295 : Int64)))), .second, .val (.long ((((9223372036854775807 : Int64) >>> ((32 : Int32) &&& 0x3f).toInt64) * ((9223372036854775807 : Int64) &&& (4294967295 : Int64))) + (((((9223372036854775807 : Int64) &&& (4294967295 : Int64)) * ((9223372036854775807 : Int64) &&& (4294967295 : Int64))).toUInt64 >>> ((32 : Int32) &&& 0x3f).toInt64.toUInt64).toInt64))), .second, .val (.long ((((((9223372036854775807 : Int64) >>> ((32 : Int32) &&& 0x3f).toInt64) * ((9223372036854775807 : Int64) &&& (4294967295 : Int64))) + (((((9223372036854775807 : Int64) &&& (4294967295 : Int64)) * ((9223372036854775807 : Int64) &&& (4294967295 : Int64))).toUInt64 >>> ((32 : Int32) &&& 0x3f).toInt64.toUInt64).toInt64)) &&& (4294967295 : Int64)) + (((9223372036854775807 : Int64) &&& (4294967295 : Int64)) * ((9223372036854775807 : Int64) >>> ((32 : Int32) &&& 0x3f).toInt64)))), .second, .val (.long (((((9223372036854775807 : Int64) >>> ((32 : Int32) &&& 0x3f).toInt64) * ((9223372036854775807 : Int64) &&& (4294967295 : Int64))) + (((((9223372036854775807 : Int64) &&& (4294967295 : Int64)) * ((9223372036854775807 : Int64) &&& (4294967295 : Int64))).toUInt64 >>> ((32 : Int32) &&& 0x3f).toInt64.toUInt64).toInt64)) >>> ((32 : Int32) &&& 0x3f).toInt64)), .second]) rfl ?_
  refine XS.lload X0.here hx rfl (hb hby d11_71) rfl ?_
  refine XS.lload X0.here hx rfl (hb hby d11_73) rfl ?_
  refine XS.lmul X0.here hx rfl (hb hby d11_75) rfl ?_
  refine XS.lload X0.here hx rfl (hb hby d11_76) rfl ?_
  refine XS.ladd X0.here hx rfl (hb hby d11_78) rfl ?_
  refine XS.lload X0.here hx rfl (hb hby d11_79) rfl ?_
  refine XS.bipush X0.here hx rfl (hb hby d11_81) ?_
  refine XS.lshr X0.here hx rfl (hb hby d11_83) rfl ?_
  refine XS.ladd X0.here hx rfl (hb hby d11_84) rfl ?_
  show own_At p e below s₁ m 85 #[.val (.long (9223372036854775807 : Int64)), .second, .val (.long (9223372036854775807 : Int64)), .second, .val (.long ((9223372036854775807 : Int64) >>> ((32 : Int32) &&& 0x3f).toInt64)), .second, .val (.long ((9223372036854775807 : Int64) &&& (4294967295 : Int64))), .second, .val (.long ((9223372036854775807 : Int64) >>> ((32 : Int32) &&& 0x3f).toInt64)), .second, .val (.long ((9223372036854775807 : Int64) &&& (4294967295 : Int64))), .second, .val (.long (((9223372036854775807 : Int64) &&& (4294967295 : Int64)) * ((9223372036854775807 : Int64) &&& (4294967295 : Int64)))), .second, .val (.long ((((9223372036854775807 : Int64) >>> ((32 : Int32) &&& 0x3f).toInt64) * ((9223372036854775807 : Int64) &&& (4294967295 : Int64))) + (((((9223372036854775807 : Int64) &&& (4294967295 : Int64)) * ((9223372036854775807 : Int64) &&& (4294967295 : Int64))).toUInt64 >>> ((32 : Int32) &&& 0x3f).toInt64.toUInt64).toInt64))), .second, .val (.long ((((((9223372036854775807 : Int64) >>> ((32 : Int32) &&& 0x3f).toInt64) * ((9223372036854775807 : Int64) &&& (4294967295 : Int64))) + (((((9223372036854775807 : Int64) &&& (4294967295 : Int64)) * ((9223372036854775807 : Int64) &&& (4294967295 : Int64))).toUInt64 >>> ((32 : Int32) &&& 0x3f).toInt64.toUInt64).toInt64)) &&& (4294967295 : Int64)) + (((9223372036854775807 : Int64) &&& (4294967295 : Int64)) * ((9223372036854775807 : Int64) >>> ((32 : Int32) &&& 0x3f).toInt64)))), .second, .val (.long (((((9223372036854775807 : Int64) >>> ((32 : Int32) &&& 0x3f).toInt64) * ((9223372036854775807 : Int64) &&& (4294967295 : Int64))) + (((((9223372036854775807 : Int64) &&& (4294967295 : Int64)) * ((9223372036854775807 : Int64) &&& (4294967295 : Int64))).toUInt64 >>> ((32 : Int32) &&& 0x3f).toInt64.toUInt64).toInt64)) >>> ((32 : Int32) &&& 0x3f).toInt64)), .second] [(.long (((((9223372036854775807 : Int64) >>> ((32 : Int32) &&& 0x3f).toInt64) * ((9223372036854775807 : Int64) >>> ((32 : Int32) &&& 0x3f).toInt64)) + (((((9223372036854775807 : Int64) >>> ((32 : Int32) &&& 0x3f).toInt64) * ((9223372036854775807 : Int64) &&& (4294967295 : Int64))) + (((((9223372036854775807 : Int64) &&& (4294967295 : Int64)) * ((9223372036854775807 : Int64) &&& (4294967295 : Int64))).toUInt64 >>> ((32 : Int32) &&& 0x3f).toInt64.toUInt64).toInt64)) >>> ((32 : Int32) &&& 0x3f).toInt64)) + (((((((9223372036854775807 : Int64) >>> ((32 : Int32) &&& 0x3f).toInt64) * ((9223372036854775807 : Int64) &&& (4294967295 : Int64))) + (((((9223372036854775807 : Int64) &&& (4294967295 : Int64)) * ((9223372036854775807 : Int64) &&& (4294967295 : Int64))).toUInt64 >>> ((32 : Int32) &&& 0x3f).toInt64.toUInt64).toInt64)) &&& (4294967295 : Int64)) + (((9223372036854775807 : Int64) &&& (4294967295 : Int64)) * ((9223372036854775807 : Int64) >>> ((32 : Int32) &&& 0x3f).toInt64))) >>> ((32 : Int32) &&& 0x3f).toInt64)))] _
  rw [show (((((9223372036854775807 : Int64) >>> ((32 : Int32) &&& 0x3f).toInt64) * ((9223372036854775807 : Int64) >>> ((32 : Int32) &&& 0x3f).toInt64)) + (((((9223372036854775807 : Int64) >>> ((32 : Int32) &&& 0x3f).toInt64) * ((9223372036854775807 : Int64) &&& (4294967295 : Int64))) + (((((9223372036854775807 : Int64) &&& (4294967295 : Int64)) * ((9223372036854775807 : Int64) &&& (4294967295 : Int64))).toUInt64 >>> ((32 : Int32) &&& 0x3f).toInt64.toUInt64).toInt64)) >>> ((32 : Int32) &&& 0x3f).toInt64)) + (((((((9223372036854775807 : Int64) >>> ((32 : Int32) &&& 0x3f).toInt64) * ((9223372036854775807 : Int64) &&& (4294967295 : Int64))) + (((((9223372036854775807 : Int64) &&& (4294967295 : Int64)) * ((9223372036854775807 : Int64) &&& (4294967295 : Int64))).toUInt64 >>> ((32 : Int32) &&& 0x3f).toInt64.toUInt64).toInt64)) &&& (4294967295 : Int64)) + (((9223372036854775807 : Int64) &&& (4294967295 : Int64)) * ((9223372036854775807 : Int64) >>> ((32 : Int32) &&& 0x3f).toInt64))) >>> ((32 : Int32) &&& 0x3f).toInt64)) = (4611686018427387903 : Int64) from (by decide +kernel)]
  exact kt)
 obtain ⟨fs, hr, hrun, hended, hW, hsame⟩ := X0.leave (v := (some (.long (4611686018427387903 : Int64)))) (fun h => by rw [Bd.returns] at h; cases h)
 subst hB0
 refine ⟨_, _, st1 _ ?_, hrun, hended, _, _, rfl, ?_, ⟨_, rfl⟩, hW, hsame.mono (by decide) (by decide)⟩
 ·exact retOut X0 hx Bd.returns rfl (Or.inr (Or.inl ⟨rfl, rfl, _, rfl⟩)) (hb hby d11_85) hr
 ·show Q_rm_mh Z  h0 n0 _ s₁.heap _
  rw [e0]
  exact ⟨rfl, N0, rfl⟩
def Q_rm_ts (Z : State) (ag : Addr) (f : Nat → Int32) (h0 : Heap) (n0 : Nat) (v : Option Value) (h : Heap) (L : List Loc) : Prop := v = some (.ref ag) ∧ Fr n0 L ∧ h = h0
set_option maxRecDepth 65536 in
set_option maxHeartbeats 40000000 in
theorem rm_ts (l : Launch) (Z : State) (a0 : Array Value) (hw : ∀ d ∈ tables_1, d.before a0 Z = true) (ws : List Jvm.Cond) (ag : Addr) (f : Nat → Int32) (h0 : Heap) (n0 : Nat) (Z0 : n0 ≤ h0.size) (Ag : own_Av Z h0 ag .int 4 (fun q => .int (f q))) (h1 : ¬ f 0 = 0) :
  MetFree l (⟨"java/math/BigInteger", "trustedStripLeadingZeroInts", "([I)[I"⟩ : MethodName) (head1 (Jvm.Cond.code (⟨"java/math/BigInteger", "trustedStripLeadingZeroInts", "([I)[I"⟩ : MethodName) jdk_2097_method_140_code 3 (some (.array .int)) :: ws) ({ frames := 0, cells := 0, slots := 0, locals := 0 } : Room)) (fun a U => a = #[.ref ag] ∧ Z.Warmed39 U.vm ∧ U.heap = h0) (fun _ _ _ _ _ => True) (fun _ U o U' => ∃ v L, o = .returned v ∧ Q_rm_ts Z ag f h0 n0 v U'.heap L ∧ FrameEnd U o U' L ({ frames := 0, cells := 0, slots := 0, locals := 0 } : Room).cells ({ frames := 0, cells := 0, slots := 0, locals := 0 } : Room).slots) := by
 refine MetFree.of_bodySF (plainFor_of_name own_pn1) hisR ?_
 intro p e s m args below meth c s₁ Bd hml0 hP hK
 obtain ⟨rfl, hZ, hh⟩ := hP
 have hx := Bd.exec
 have hby := Bd.bytes
 have hml : c.maxLocals = 3 := hml0
 have hown : s.vm.findClass "java/math/BigInteger" = some m.cls := findClass_of_methodNamed Bd.named
 have hnm := (name_of_methodNamed Bd.named Bd.method).1
 have X0 : Stand p l e ({ frames := 0, cells := 0, slots := 0, locals := 0 } : Room) s m #[.ref ag] below meth c s₁ [] 0 0 := Stand.of_body Bd
 have e0 : s₁.heap = h0 := by rw [← hh, Bd.state]; rfl
 have N0 := Fr.nil n0
 obtain ⟨B0, hB0⟩ : ∃ B, B = (s₁.setTop (entryFrame m #[.ref ag] 3)) := ⟨_, rfl⟩
 have st0 : own_K p e below s₁ m 0 #[rv ag, .unset, .unset] [] B0 := fun t kk0 => hB0 ▸ castTop (own_ef22_R m ag) kk0
 have st1 : own_K p e below s₁ m 1 #[rv ag, .unset, .unset] [.ref ag] B0 := fun t kt => st0 t (by
  refine XS.aloadN X0.here hx rfl (hb hby d22_0) rfl rfl ?_
  exact kt)
 have ls2 := own_alen X0 hx hZ e0 Ag (g := (mkF m 1 #[rv ag, .unset, .unset] [.ref ag])) rfl rfl (hb hby d22_1)
 have st3 := fun t kt => st1 t (ls2 t kt)
 have hc4 : (0 : Int32) < (4 : Int32) := by decide
 have st5 : own_K p e below s₁ m 12 #[rv ag, iv 4, iv 0] [.int 0, .ref ag] B0 := fun t kt => st3 t (by
  refine XS.istoreN X0.here hx rfl (hb hby d22_2) rfl (l' := #[rv ag, iv 4, .unset]) rfl ?_
  refine XS.iconst X0.here hx rfl (hb hby d22_3) ?_
  refine XS.istoreN X0.here hx rfl (hb hby d22_4) rfl (l' := #[rv ag, iv 4, iv 0]) rfl ?_
  refine XS.iloadN X0.here hx rfl (hb hby d22_5) rfl ?_
  refine XS.iloadN X0.here hx rfl (hb hby d22_6) rfl ?_
  refine XS.icmpNo X0.here hx rfl (hb hby d22_7) rfl (tlt hc4).2.1 ?_
  refine XS.aloadN X0.here hx rfl (hb hby d22_10) rfl rfl ?_
  refine XS.iloadN X0.here hx rfl (hb hby d22_11) rfl ?_
  exact kt)
 have ls6 := own_iaload X0 hx hZ e0 Ag (j := (0 : Int32)) (i := 0) (by decide) (by decide) (by decide) (v := (.int (f 0))) (rfl) (g := (mkF m 12 #[rv ag, iv 4, iv 0] [.int 0, .ref ag])) rfl rfl (hb hby d22_12)
 have st7 := fun t kt => st5 t (ls6 t kt)
 have hc8 : ¬ ((f 0) = (0 : Int32)) := h1
 have hc9 : (0 : Int32) = (0 : Int32) := rfl
 have st10 : own_K p e below s₁ m 36 #[rv ag, iv 4, iv 0] [.ref ag] B0 := fun t kt => st7 t (by
  refine XS.ifYes X0.here hx rfl (pc0 := 13) (pc' := 22) rfl (hb hby d22_13) rfl ((if0 _ _).trans (feq hc8).2) (by decide) (by decide) ?_
  refine XS.iloadN X0.here hx rfl (hb hby d22_22) rfl ?_
  refine XS.ifNo X0.here hx rfl (hb hby d22_23) rfl ((if0 _ _).trans (teq hc9).2) ?_
  refine XS.aloadN X0.here hx rfl (hb hby d22_26) rfl rfl ?_
  refine XS.goto X0.here hx rfl (pc0 := 27) (pc' := 36) rfl (hb hby d22_27) (by decide) (by decide) ?_
  exact kt)
 obtain ⟨fs, hr, hrun, hended, hW, hsame⟩ := X0.leave (v := (some (.ref ag))) (fun h => by rw [Bd.returns] at h; cases h)
 subst hB0
 refine ⟨_, _, st10 _ ?_, hrun, hended, _, _, rfl, ?_, ⟨_, rfl⟩, hW, hsame.mono (by decide) (by decide)⟩
 ·exact retOut X0 hx Bd.returns rfl (Or.inr (Or.inr (Or.inr (Or.inr ⟨rfl, rfl, rfl⟩)))) (hb hby d22_36) hr
 ·show Q_rm_ts Z ag f h0 n0 _ s₁.heap _
  rw [e0]
  exact ⟨rfl, N0, rfl⟩
def Q_rm_i4 (Z : State) (ao : Addr) (ag : Addr) (us : Int32) (f : Nat → Value) (h0 : Heap) (n0 : Nat) (v : Option Value) (h : Heap) (L : List Loc) : Prop := v = none ∧ Fr n0 L ∧ Keep h0 h [ao] ∧ Fld Z h ao "java/math/BigInteger" "signum" "I" (.int us) ∧ Fld Z h ao "java/math/BigInteger" "mag" "[I" (.ref ag)
set_option maxRecDepth 65536 in
set_option maxHeartbeats 40000000 in
theorem rm_i4 (l : Launch) (Z : State) (a0 : Array Value) (hw : ∀ d ∈ tables_1, d.before a0 Z = true) (ws : List Jvm.Cond) (ao : Addr) (ag : Addr) (us : Int32) (f : Nat → Value) (h0 : Heap) (n0 : Nat) (Z0 : n0 ≤ h0.size) (E_ao : Exa Z h0 ao "java/math/BigInteger") (g_ao : n0 ≤ ao) (F_signum_ao : Fld Z h0 ao "java/math/BigInteger" "signum" "I" (.int 0)) (F_mag_ao : Fld Z h0 ao "java/math/BigInteger" "mag" "[I" .null) (Ag : own_Av Z h0 ag .int 4 f) (ne_ao_ag : ao ≠ ag) :
  MetFree l (⟨"java/math/BigInteger", "<init>", "([II)V"⟩ : MethodName) (head1 (Jvm.Cond.code (⟨"java/math/BigInteger", "<init>", "([II)V"⟩ : MethodName) jdk_2097_method_25_code 3 none :: ws) ({ frames := 2, cells := 0, slots := 0, locals := 24 } : Room)) (fun a U => a = #[.ref ao, .ref ag, .int us] ∧ Z.Warmed39 U.vm ∧ U.heap = h0) (fun _ _ _ _ _ => True) (fun _ U o U' => ∃ v L, o = .returned v ∧ Q_rm_i4 Z ao ag us f h0 n0 v U'.heap L ∧ FrameEnd U o U' L ({ frames := 2, cells := 0, slots := 0, locals := 24 } : Room).cells ({ frames := 2, cells := 0, slots := 0, locals := 24 } : Room).slots) := by
 refine MetFree.of_bodySF (plainFor_of_name own_pn1) hisR ?_
 intro p e s m args below meth c s₁ Bd hml0 hP hK
 obtain ⟨rfl, hZ, hh⟩ := hP
 have hx := Bd.exec
 have hby := Bd.bytes
 have hml : c.maxLocals = 3 := hml0
 have hown : s.vm.findClass "java/math/BigInteger" = some m.cls := findClass_of_methodNamed Bd.named
 have hnm := (name_of_methodNamed Bd.named Bd.method).1
 have X0 : Stand p l e ({ frames := 2, cells := 0, slots := 0, locals := 24 } : Room) s m #[.ref ao, .ref ag, .int us] below meth c s₁ [] 0 0 := Stand.of_body Bd
 have e0 : s₁.heap = h0 := by rw [← hh, Bd.state]; rfl
 have N0 := Fr.nil n0
 obtain ⟨B0, hB0⟩ : ∃ B, B = (s₁.setTop (entryFrame m #[.ref ao, .ref ag, .int us] 3)) := ⟨_, rfl⟩
 have st0 : own_K p e below s₁ m 0 #[rv ao, rv ag, iv us] [] B0 := fun t kk0 => hB0 ▸ castTop (own_ef23_RRI m ao ag us) kk0
 have k0 : Keep h0 h0 [ao] := Keep.refl _ _
 have st1 : own_K p e below s₁ m 1 #[rv ao, rv ag, iv us] [.ref ao] B0 := fun t kt => st0 t (by
  refine XS.aloadN X0.here hx rfl (hb hby d23_0) rfl rfl ?_
  exact kt)
 obtain ⟨_, _, ⟨T2, L2, k2, n2⟩, -, X2, ⟨Lc2, hQ2, l2, y2, z2⟩, ls2⟩ := X0.specialBack hx (y := (⟨"java/lang/Number", "<init>", "()V"⟩ : MethodName)) rfl hown (mvT hZ (own_w hw 73 rfl)) (mvT hZ (own_w hw 74 rfl)) (mvT hZ (own_w hw 78 rfl)) (by decide) (backOf (W := 0) (rm_number l Z a0 hw [] ao h0 n0 Z0) hZ (own_w hw 78 rfl) (own_w hw 77 rfl) (by decide) (by decide)) (g := (mkF m 1 #[rv ao, rv ag, iv us] [.ref ao])) rfl (by rw [hml]; rfl) (Steps.refl _) (a := ao) (argsL := []) (rest := []) (lenOf own_pd0 rfl) rfl (by show 2 * 0 + _ ≤ _; exact Nat.le_of_eq rfl) (hb hby d23_1) (fun _ _ => ⟨rfl, e0, (by decide : 0 + 0 ≤ _), (by decide : 0 + 0 ≤ _)⟩)
 dsimp only [Pt.U, Pt.locs, Pt.cells, Pt.slots] at X2 l2 y2 z2 ls2 hQ2
 subst l2 y2 z2
 obtain ⟨rfl, Nq2, eq2⟩ := hQ2
 have N2 := Fr.app N0 Nq2
 have st3 : own_K p e below T2 m 4 #[rv ao, rv ag, iv us] [] B0 := fun t kt => st1 t (ls2.trans kt)
 have st4 : own_K p e below T2 m 6 #[rv ao, rv ag, iv us] [.ref ag, .ref ao] B0 := fun t kt => st3 t (by
  refine XS.aloadN X2.here hx rfl (hb hby d23_4) rfl rfl ?_
  refine XS.aloadN X2.here hx rfl (hb hby d23_5) rfl rfl ?_
  exact kt)
 have ls5 := own_alen X2 hx hZ eq2 Ag (g := (mkF m 6 #[rv ao, rv ag, iv us] [.ref ag, .ref ao])) rfl rfl (hb hby d23_6)
 have st6 := fun t kt => st4 t (ls5 t kt)
 have hc7 : ¬ ((4 : Int32) = (0 : Int32)) := by decide
 have st8 : own_K p e below T2 m 15 #[rv ao, rv ag, iv us] [.int us, .ref ao] B0 := fun t kt => st6 t (by
  refine XS.ifYes X2.here hx rfl (pc0 := 7) (pc' := 14) rfl (hb hby d23_7) rfl ((if0 _ _).trans (feq hc7).2) (by decide) (by decide) ?_
  refine XS.iloadN X2.here hx rfl (hb hby d23_14) rfl ?_
  exact kt)
 obtain ⟨T9, h9, X9, e9, W9, ls9⟩ := putF X2 hx hZ hown (host := "") (Or.inl (own_w hw 80 rfl)) Via.refl eq2 F_signum_ao E_ao (Or.inr ⟨(own_w hw 81 rfl), rfl, hnm⟩) (own_w hw 68 rfl) (ty := .int) (by decide) rfl rfl (g := (mkF m 15 #[rv ao, rv ag, iv us] [.int us, .ref ao])) rfl rfl (hb hby d23_15)
 have N9 := Fr.snoc X9 N2 g_ao
 have f10 := E_ao.wr W9
 have f11 := F_signum_ao.same W9
 have f12 := F_mag_ao.other W9 (Or.inr (own_s84_81 hw))
 have f13 := Ag.other W9 (Ne.symm ne_ao_ag)
 have z14 := Nat.le_trans Z0 (Keep.of_wr W9).1
 have k15 := k0.wr W9 (Or.inl (List.mem_of_getElem? (i := 0) rfl))
 have st16 := fun t kt => st8 t (ls9 t kt)
 have st17 : own_K p e below T9 m 20 #[rv ao, rv ag, iv us] [.ref ag, .ref ao] B0 := fun t kt => st16 t (by
  refine XS.aloadN X9.here hx rfl (hb hby d23_18) rfl rfl ?_
  refine XS.aloadN X9.here hx rfl (hb hby d23_19) rfl rfl ?_
  exact kt)
 obtain ⟨T18, h18, X18, e18, W18, ls18⟩ := putF X9 hx hZ hown (host := "") (Or.inl (own_w hw 83 rfl)) Via.refl e9 f12 f10 (Or.inr ⟨(own_w hw 84 rfl), rfl, hnm⟩) (own_w hw 68 rfl) (ty := (.array .int)) (by decide) rfl rfl (g := (mkF m 20 #[rv ao, rv ag, iv us] [.ref ag, .ref ao])) rfl rfl (hb hby d23_20)
 have N18 := Fr.snoc X18 N9 g_ao
 have f20 := f11.other W18 (Or.inr (own_s81_84 hw))
 have f21 := f12.same W18
 have f22 := f13.other W18 (Ne.symm ne_ao_ag)
 have z23 := Nat.le_trans z14 (Keep.of_wr W18).1
 have k24 := k15.wr W18 (Or.inl (List.mem_of_getElem? (i := 0) rfl))
 have st25 := fun t kt => st17 t (ls18 t kt)
 have st26 : own_K p e below T18 m 24 #[rv ao, rv ag, iv us] [.ref ao] B0 := fun t kt => st25 t (by
  refine XS.aloadN X18.here hx rfl (hb hby d23_23) rfl rfl ?_
  exact kt)
 obtain ⟨T27, X27, e27, ls27⟩ := getF X18 hx hZ hown (host := "") (Or.inl (own_w hw 83 rfl)) Via.refl e18 f21 (g := (mkF m 24 #[rv ao, rv ag, iv us] [.ref ao])) rfl rfl (hb hby d23_24)
 have st28 := fun t kt => st26 t (ls27 t kt)
 have ls29 := own_alen X27 hx hZ e27 f22 (g := (mkF m 27 #[rv ao, rv ag, iv us] [.ref ag])) rfl rfl (hb hby d23_27)
 have st30 := fun t kt => st28 t (ls29 t kt)
 have hc31 : (4 : Int32) < (67108864 : Int32) := by decide
 have st32 : own_K p e below T27 m 37 #[rv ao, rv ag, iv us] [] B0 := fun t kt => st30 t (by
  show own_At p e below T27 m 28 #[rv ao, rv ag, iv us] [.int 4] _
  refine X27.ldcInt hx hown (mvT hZ (own_w hw 115 rfl)) (g := (mkF m 28 #[rv ao, rv ag, iv us] [.int 4])) rfl (hb hby d23_28) _ ?_
  refine XS.icmpYes X27.here hx rfl (pc0 := 30) (pc' := 37) rfl (hb hby d23_30) rfl (tlt hc31).1 (by decide) (by decide) ?_
  exact kt)
 obtain ⟨fs, hr, hrun, hended, hW, hsame⟩ := X27.leave (v := none) (fun _ => rfl)
 subst hB0
 refine ⟨_, _, st32 _ ?_, hrun, hended, _, _, rfl, ?_, ⟨_, rfl⟩, hW, hsame.mono (by decide) (by decide)⟩
 ·exact X27.returnOut hx Bd.returns (hb hby d23_37) hr
 ·show Q_rm_i4 Z ao ag us f h0 n0 _ T27.heap _
  rw [e27]
  exact ⟨rfl, N18, k24, f20, f21⟩
def Q_rm_rn (Z : State) (ag : Addr) (h0 : Heap) (n0 : Nat) (v : Option Value) (h : Heap) (L : List Loc) : Prop := v = some (.ref ag) ∧ Fr n0 L ∧ h = h0
set_option maxRecDepth 65536 in
set_option maxHeartbeats 40000000 in
theorem rm_rn (l : Launch) (Z : State) (a0 : Array Value) (hw : ∀ d ∈ tables_1, d.before a0 Z = true) (ws : List Jvm.Cond) (ag : Addr) (h0 : Heap) (n0 : Nat) (Z0 : n0 ≤ h0.size) :
  MetFree l (⟨"java/util/Objects", "requireNonNull", "(Ljava/lang/Object;)Ljava/lang/Object;"⟩ : MethodName) (head1 (Jvm.Cond.code (⟨"java/util/Objects", "requireNonNull", "(Ljava/lang/Object;)Ljava/lang/Object;"⟩ : MethodName) jdk_31_method_10_code 1 (some (.object "java/lang/Object")) :: ws) ({ frames := 0, cells := 0, slots := 0, locals := 0 } : Room)) (fun a U => a = #[.ref ag] ∧ Z.Warmed39 U.vm ∧ U.heap = h0) (fun _ _ _ _ _ => True) (fun _ U o U' => ∃ v L, o = .returned v ∧ Q_rm_rn Z ag h0 n0 v U'.heap L ∧ FrameEnd U o U' L ({ frames := 0, cells := 0, slots := 0, locals := 0 } : Room).cells ({ frames := 0, cells := 0, slots := 0, locals := 0 } : Room).slots) := by
 refine MetFree.of_bodySF (plainFor_of_name own_pn2) hisR ?_
 intro p e s m args below meth c s₁ Bd hml0 hP hK
 obtain ⟨rfl, hZ, hh⟩ := hP
 have hx := Bd.exec
 have hby := Bd.bytes
 have hml : c.maxLocals = 1 := hml0
 have hown : s.vm.findClass "java/util/Objects" = some m.cls := findClass_of_methodNamed Bd.named
 have hnm := (name_of_methodNamed Bd.named Bd.method).1
 have X0 : Stand p l e ({ frames := 0, cells := 0, slots := 0, locals := 0 } : Room) s m #[.ref ag] below meth c s₁ [] 0 0 := Stand.of_body Bd
 have e0 : s₁.heap = h0 := by rw [← hh, Bd.state]; rfl
 have N0 := Fr.nil n0
 obtain ⟨B0, hB0⟩ : ∃ B, B = (s₁.setTop (entryFrame m #[.ref ag] 1)) := ⟨_, rfl⟩
 have st0 : own_K p e below s₁ m 0 #[rv ag] [] B0 := fun t kk0 => hB0 ▸ castTop (own_ef20_R m ag) kk0
 have st1 : own_K p e below s₁ m 13 #[rv ag] [.ref ag] B0 := fun t kt => st0 t (by
  refine XS.aloadN X0.here hx rfl (hb hby d20_0) rfl rfl ?_
  refine XS.ifnonnullYes X0.here hx rfl (pc0 := 1) (pc' := 12) rfl (hb hby d20_1) rfl (by decide) (by decide) ?_
  refine XS.aloadN X0.here hx rfl (hb hby d20_12) rfl rfl ?_
  exact kt)
 obtain ⟨fs, hr, hrun, hended, hW, hsame⟩ := X0.leave (v := (some (.ref ag))) (fun h => by rw [Bd.returns] at h; cases h)
 subst hB0
 refine ⟨_, _, st1 _ ?_, hrun, hended, _, _, rfl, ?_, ⟨_, rfl⟩, hW, hsame.mono (by decide) (by decide)⟩
 ·exact retOut X0 hx Bd.returns rfl (Or.inr (Or.inr (Or.inr (Or.inr ⟨rfl, rfl, rfl⟩)))) (hb hby d20_13) hr
 ·show Q_rm_rn Z ag h0 n0 _ s₁.heap _
  rw [e0]
  exact ⟨rfl, N0, rfl⟩
def Q_rm_ck (Z : State) (ag : Addr) (f : Nat → Value) (h0 : Heap) (n0 : Nat) (v : Option Value) (h : Heap) (L : List Loc) : Prop := v = none ∧ Fr n0 L ∧ h = h0
set_option maxRecDepth 65536 in
set_option maxHeartbeats 40000000 in
theorem rm_ck (l : Launch) (Z : State) (a0 : Array Value) (hw : ∀ d ∈ tables_1, d.before a0 Z = true) (ws : List Jvm.Cond) (ag : Addr) (f : Nat → Value) (h0 : Heap) (n0 : Nat) (Z0 : n0 ≤ h0.size) (Ag : own_Av Z h0 ag .int 2 f) :
  MetFree l (⟨"java/math/BigInteger", "multiplyToLenCheck", "([II)V"⟩ : MethodName) (head1 (Jvm.Cond.code (⟨"java/math/BigInteger", "multiplyToLenCheck", "([II)V"⟩ : MethodName) jdk_2097_method_47_code 2 none :: ws) ({ frames := 1, cells := 0, slots := 0, locals := 12 } : Room)) (fun a U => a = #[.ref ag, .int 2] ∧ Z.Warmed39 U.vm ∧ U.heap = h0) (fun _ _ _ _ _ => True) (fun _ U o U' => ∃ v L, o = .returned v ∧ Q_rm_ck Z ag f h0 n0 v U'.heap L ∧ FrameEnd U o U' L ({ frames := 1, cells := 0, slots := 0, locals := 12 } : Room).cells ({ frames := 1, cells := 0, slots := 0, locals := 12 } : Room).slots) := by
 refine MetFree.of_bodySF (plainFor_of_name own_pn1) hisR ?_
 intro p e s m args below meth c s₁ Bd hml0 hP hK
 obtain ⟨rfl, hZ, hh⟩ := hP
 have hx := Bd.exec
 have hby := Bd.bytes
 have hml : c.maxLocals = 2 := hml0
 have hown : s.vm.findClass "java/math/BigInteger" = some m.cls := findClass_of_methodNamed Bd.named
 have hnm := (name_of_methodNamed Bd.named Bd.method).1
 have X0 : Stand p l e ({ frames := 1, cells := 0, slots := 0, locals := 12 } : Room) s m #[.ref ag, .int 2] below meth c s₁ [] 0 0 := Stand.of_body Bd
 have e0 : s₁.heap = h0 := by rw [← hh, Bd.state]; rfl
 have N0 := Fr.nil n0
 obtain ⟨B0, hB0⟩ : ∃ B, B = (s₁.setTop (entryFrame m #[.ref ag, .int 2] 2)) := ⟨_, rfl⟩
 have st0 : own_K p e below s₁ m 0 #[rv ag, iv 2] [] B0 := fun t kk0 => hB0 ▸ castTop (own_ef19_RI m ag (2 : Int32)) kk0
 have hc1 : (0 : Int32) < (2 : Int32) := by decide
 have st2 : own_K p e below s₁ m 6 #[rv ag, iv 2] [.ref ag] B0 := fun t kt => st0 t (by
  refine XS.iloadN X0.here hx rfl (hb hby d19_0) rfl ?_
  refine XS.ifYes X0.here hx rfl (pc0 := 1) (pc' := 5) rfl (hb hby d19_1) rfl ((if0 _ _).trans (tlt hc1).2.2.1) (by decide) (by decide) ?_
  refine XS.aloadN X0.here hx rfl (hb hby d19_5) rfl rfl ?_
  exact kt)
 obtain ⟨_, _, ⟨T3, L3, k3, n3⟩, -, X3, ⟨Lc3, hQ3, l3, y3, z3⟩, ls3⟩ := Jvm.LawKit.callS X0 hx (y := (⟨"java/util/Objects", "requireNonNull", "(Ljava/lang/Object;)Ljava/lang/Object;"⟩ : MethodName)) hown (mvT hZ (own_w hw 101 rfl)) (mvT hZ (own_w hw 102 rfl)) (mvT hZ (own_w hw 103 rfl)) (mvT hZ (own_w hw 104 rfl)) (by decide) (backOf (W := 0) (rm_rn l Z a0 hw [] ag h0 n0 Z0) hZ (own_w hw 104 rfl) (own_w hw 103 rfl) (by decide) (by decide)) (g := (mkF m 6 #[rv ag, iv 2] [.ref ag])) rfl (by rw [hml]; rfl) (argsL := [.ref ag]) (rest := []) (lenOf own_pd1 rfl) rfl (by show 2 * 0 + _ ≤ _; exact Nat.le_of_eq rfl) (hb hby d19_6) (fun _ _ => ⟨rfl, e0, (by decide : 0 + 0 ≤ _), (by decide : 0 + 0 ≤ _)⟩)
 dsimp only [Pt.U, Pt.locs, Pt.cells, Pt.slots] at X3 l3 y3 z3 ls3 hQ3
 subst l3 y3 z3
 obtain ⟨rfl, Nq3, eq3⟩ := hQ3
 have N3 := Fr.app N0 Nq3
 have st4 := fun t kt => st2 t (ls3 t kt)
 have st5 : own_K p e below T3 m 12 #[rv ag, iv 2] [.ref ag, .int 2] B0 := fun t kt => st4 t (by
  refine XS.pop X3.here hx rfl (hb hby d19_9) rfl rfl ?_
  refine XS.iloadN X3.here hx rfl (hb hby d19_10) rfl ?_
  refine XS.aloadN X3.here hx rfl (hb hby d19_11) rfl rfl ?_
  exact kt)
 have ls6 := own_alen X3 hx hZ eq3 Ag (g := (mkF m 12 #[rv ag, iv 2] [.ref ag, .int 2])) rfl rfl (hb hby d19_12)
 have st7 := fun t kt => st5 t (ls6 t kt)
 have hc8 : ¬ ((2 : Int32) < (2 : Int32)) := by decide
 have st9 : own_K p e below T3 m 27 #[rv ag, iv 2] [] B0 := fun t kt => st7 t (by
  refine XS.icmpYes X3.here hx rfl (pc0 := 13) (pc' := 27) rfl (hb hby d19_13) rfl (flt hc8).2.2.2 (by decide) (by decide) ?_
  exact kt)
 obtain ⟨fs, hr, hrun, hended, hW, hsame⟩ := X3.leave (v := none) (fun _ => rfl)
 subst hB0
 refine ⟨_, _, st9 _ ?_, hrun, hended, _, _, rfl, ?_, ⟨_, rfl⟩, hW, hsame.mono (by decide) (by decide)⟩
 ·exact X3.returnOut hx Bd.returns (hb hby d19_27) hr
 ·show Q_rm_ck Z ag f h0 n0 _ T3.heap _
  rw [eq3]
  exact ⟨rfl, N3, rfl⟩
def Q_rm_im (Z : State) (ag : Addr) (ah : Addr) (h0 : Heap) (n0 : Nat) (v : Option Value) (h : Heap) (L : List Loc) : Prop := ∃ rq, v = some (.ref rq) ∧ Fr n0 L ∧ Keep h0 h [] ∧ n0 ≤ rq ∧ own_Av Z h rq .int 4 (fun q => .int ((own_w4 1073741823 (-1) 0 1) q))
set_option maxRecDepth 65536 in
set_option maxHeartbeats 40000000 in
theorem rm_im (l : Launch) (Z : State) (a0 : Array Value) (hw : ∀ d ∈ tables_1, d.before a0 Z = true) (ws : List Jvm.Cond) (ag : Addr) (ah : Addr) (h0 : Heap) (n0 : Nat) (Z0 : n0 ≤ h0.size) (Ag : own_Av Z h0 ag .int 2 (fun q => .int (if q = 0 then 2147483647 else -1))) (Ah : own_Av Z h0 ah .int 2 (fun q => .int (if q = 0 then 2147483647 else -1))) :
  MetFree l (⟨"java/math/BigInteger", "implMultiplyToLen", "([II[II[I)[I"⟩ : MethodName) (head1 (Jvm.Cond.code (⟨"java/math/BigInteger", "implMultiplyToLen", "([II[II[I)[I"⟩ : MethodName) jdk_2097_method_46_code 14 (some (.array .int)) :: ws) ({ frames := 0, cells := 1, slots := 4, locals := 0 } : Room)) (fun a U => a = #[.ref ag, .int 2, .ref ah, .int 2, .null] ∧ Z.Warmed39 U.vm ∧ U.heap = h0) (fun _ _ _ _ _ => True) (fun _ U o U' => ∃ v L, o = .returned v ∧ Q_rm_im Z ag ah h0 n0 v U'.heap L ∧ FrameEnd U o U' L ({ frames := 0, cells := 1, slots := 4, locals := 0 } : Room).cells ({ frames := 0, cells := 1, slots := 4, locals := 0 } : Room).slots) := by
 refine MetFree.of_bodySF (plainFor_of_name own_pn1) hisR ?_
 intro p e s m args below meth c s₁ Bd hml0 hP hK
 obtain ⟨rfl, hZ, hh⟩ := hP
 have hx := Bd.exec
 have hby := Bd.bytes
 have hml : c.maxLocals = 14 := hml0
 have hown : s.vm.findClass "java/math/BigInteger" = some m.cls := findClass_of_methodNamed Bd.named
 have hnm := (name_of_methodNamed Bd.named Bd.method).1
 have X0 : Stand p l e ({ frames := 0, cells := 1, slots := 4, locals := 0 } : Room) s m #[.ref ag, .int 2, .ref ah, .int 2, .null] below meth c s₁ [] 0 0 := Stand.of_body Bd
 have e0 : s₁.heap = h0 := by rw [← hh, Bd.state]; rfl
 have N0 := Fr.nil n0
 obtain ⟨B0, hB0⟩ : ∃ B, B = (s₁.setTop (entryFrame m #[.ref ag, .int 2, .ref ah, .int 2, .null] 14)) := ⟨_, rfl⟩
 have st0 : own_K p e below s₁ m 0 #[rv ag, iv 2, rv ah, iv 2, .val .null, .unset, .unset, .unset, .unset, .unset, .unset, .unset, .unset, .unset] [] B0 := fun t kk0 => hB0 ▸ castTop (own_ef21_RIRIN m ag (2 : Int32) ah (2 : Int32)) kk0
 have k0 : Keep h0 h0 [] := Keep.refl _ _
 have st1 : own_K p e below s₁ m 27 #[rv ag, iv 2, rv ah, iv 2, .val .null, iv 1, iv 1, .unset, .unset, .unset, .unset, .unset, .unset, .unset] [.int 4] B0 := fun t kt => st0 t (by
  refine XS.iloadN X0.here hx rfl (hb hby d21_0) rfl ?_
  refine XS.iconst X0.here hx rfl (hb hby d21_1) ?_
  refine XS.isub X0.here hx rfl (hb hby d21_2) rfl ?_
  refine XS.istore X0.here hx rfl (hb hby d21_3) rfl (l' := #[rv ag, iv 2, rv ah, iv 2, .val .null, iv ((2 : Int32) - (1 : Int32)), .unset, .unset, .unset, .unset, .unset, .unset, .unset, .unset]) rfl ?_
  show own_At p e below s₁ m 5 #[rv ag, iv 2, rv ah, iv 2, .val .null, iv ((2 : Int32) - (1 : Int32)), .unset, .unset, .unset, .unset, .unset, .unset, .unset, .unset] [] _
  rw [show ((2 : Int32) - (1 : Int32)) = (1 : Int32) from (by decide +kernel)]
  refine XS.iloadN X0.here hx rfl (hb hby d21_5) rfl ?_
  refine XS.iconst X0.here hx rfl (hb hby d21_6) ?_
  refine XS.isub X0.here hx rfl (hb hby d21_7) rfl ?_
  refine XS.istore X0.here hx rfl (hb hby d21_8) rfl (l' := #[rv ag, iv 2, rv ah, iv 2, .val .null, iv 1, iv ((2 : Int32) - (1 : Int32)), .unset, .unset, .unset, .unset, .unset, .unset, .unset]) rfl ?_
  show own_At p e below s₁ m 10 #[rv ag, iv 2, rv ah, iv 2, .val .null, iv 1, iv ((2 : Int32) - (1 : Int32)), .unset, .unset, .unset, .unset, .unset, .unset, .unset] [] _
  rw [show ((2 : Int32) - (1 : Int32)) = (1 : Int32) from (by decide +kernel)]
  refine XS.aload X0.here hx rfl (hb hby d21_10) rfl rfl ?_
  refine XS.ifnullYes X0.here hx rfl (pc0 := 12) (pc' := 24) rfl (hb hby d21_12) rfl (by decide) (by decide) ?_
  refine XS.iloadN X0.here hx rfl (hb hby d21_24) rfl ?_
  refine XS.iloadN X0.here hx rfl (hb hby d21_25) rfl ?_
  refine XS.iadd X0.here hx rfl (hb hby d21_26) rfl ?_
  show own_At p e below s₁ m 27 #[rv ag, iv 2, rv ah, iv 2, .val .null, iv 1, iv 1, .unset, .unset, .unset, .unset, .unset, .unset, .unset] [(.int ((2 : Int32) + (2 : Int32)))] _
  rw [show ((2 : Int32) + (2 : Int32)) = (4 : Int32) from (by decide +kernel)]
  exact kt)
 obtain ⟨T2, h2, c2, X2, e2, E2, A2, ls2⟩ := newP X0 hx hZ (own_w hw 82 rfl) e0 (g := (mkF m 27 #[rv ag, iv 2, rv ah, iv 2, .val .null, iv 1, iv 1, .unset, .unset, .unset, .unset, .unset, .unset, .unset] [.int 4])) rfl (hb hby d21_27) rfl (by decide) (cap := 4) (by decide) (by decide) (by decide) (by decide)
 obtain ⟨bz, g2⟩ : ∃ z, z = h0.size := ⟨_, rfl⟩
 rw [← g2] at A2 ls2
 have ne_ag_bz : ag ≠ bz := Nat.ne_of_lt (Nat.lt_of_lt_of_le Ag.lt (Nat.le_of_eq g2.symm))
 have ne_ah_bz : ah ≠ bz := Nat.ne_of_lt (Nat.lt_of_lt_of_le Ah.lt (Nat.le_of_eq g2.symm))
 have g_bz : n0 ≤ bz := Nat.le_trans Z0 (Nat.le_of_eq g2.symm)
 have sz_bz : h0.size ≤ bz := Nat.le_trans k0.1 (Nat.le_of_eq g2.symm)
 have f3 := Ag.ext E2
 have f4 := Ah.ext E2
 have z5 := Nat.le_trans Z0 E2.1
 have k6 := k0.ext E2
 have f7 : own_Av Z h2 bz .int 4 (fun _ => (.int 0)) := own_Av.new A2 (by decide) (by decide)
 have st8 := fun t kt => st1 t (ls2 t kt)
 have hc9 : ¬ ((1 : Int32) < (0 : Int32)) := by decide
 have st10 : own_K p e below T2 m 55 #[rv ag, iv 2, rv ah, iv 2, rv bz, iv 1, iv 1, .val (.long (0 : Int64)), .second, iv 1, iv 3, .unset, .unset, .unset] [.int 1, .ref ah] B0 := fun t kt => st8 t (by
  refine XS.astore X2.here hx rfl (hb hby d21_29) rfl rfl (l' := #[rv ag, iv 2, rv ah, iv 2, rv bz, iv 1, iv 1, .unset, .unset, .unset, .unset, .unset, .unset, .unset]) rfl ?_
  refine XS.lconst X2.here hx rfl (hb hby d21_31) ?_
  refine XS.lstore X2.here hx rfl (hb hby d21_32) rfl (l' := #[rv ag, iv 2, rv ah, iv 2, rv bz, iv 1, iv 1, .val (.long (0 : Int64)), .second, .unset, .unset, .unset, .unset, .unset]) rfl ?_
  refine XS.iload X2.here hx rfl (hb hby d21_34) rfl ?_
  refine XS.istore X2.here hx rfl (hb hby d21_36) rfl (l' := #[rv ag, iv 2, rv ah, iv 2, rv bz, iv 1, iv 1, .val (.long (0 : Int64)), .second, iv 1, .unset, .unset, .unset, .unset]) rfl ?_
  refine XS.iload X2.here hx rfl (hb hby d21_38) rfl ?_
  refine XS.iconst X2.here hx rfl (hb hby d21_40) ?_
  refine XS.iadd X2.here hx rfl (hb hby d21_41) rfl ?_
  refine XS.iload X2.here hx rfl (hb hby d21_42) rfl ?_
  refine XS.iadd X2.here hx rfl (hb hby d21_44) rfl ?_
  refine XS.istore X2.here hx rfl (hb hby d21_45) rfl (l' := #[rv ag, iv 2, rv ah, iv 2, rv bz, iv 1, iv 1, .val (.long (0 : Int64)), .second, iv 1, iv (((1 : Int32) + (1 : Int32)) + (1 : Int32)), .unset, .unset, .unset]) rfl ?_
  show own_At p e below T2 m 47 #[rv ag, iv 2, rv ah, iv 2, rv bz, iv 1, iv 1, .val (.long (0 : Int64)), .second, iv 1, iv (((1 : Int32) + (1 : Int32)) + (1 : Int32)), .unset, .unset, .unset] [] _
  rw [show (((1 : Int32) + (1 : Int32)) + (1 : Int32)) = (3 : Int32) from (by decide +kernel)]
  refine XS.iload X2.here hx rfl (hb hby d21_47) rfl ?_
  refine XS.ifNo X2.here hx rfl (hb hby d21_49) rfl ((if0 _ _).trans (flt hc9).1) ?_
  refine XS.aloadN X2.here hx rfl (hb hby d21_52) rfl rfl ?_
  refine XS.iload X2.here hx rfl (hb hby d21_53) rfl ?_
  exact kt)
 have ls11 := own_iaload X2 hx hZ e2 f4 (j := (1 : Int32)) (i := 1) (by decide) (by decide) (by decide) (v := (.int (-1 : Int32))) (rfl) (g := (mkF m 55 #[rv ag, iv 2, rv ah, iv 2, rv bz, iv 1, iv 1, .val (.long (0 : Int64)), .second, iv 1, iv 3, .unset, .unset, .unset] [.int 1, .ref ah])) rfl rfl (hb hby d21_55)
 have st12 := fun t kt => st10 t (ls11 t kt)
 have st13 : own_K p e below T2 m 64 #[rv ag, iv 2, rv ah, iv 2, rv bz, iv 1, iv 1, .val (.long (0 : Int64)), .second, iv 1, iv 3, .unset, .unset, .unset] [.int 1, .ref ag, (.long (((-1 : Int32).toInt64) &&& (4294967295 : Int64)))] B0 := fun t kt => st12 t (by
  refine XS.i2l X2.here hx rfl (hb hby d21_56) rfl ?_
  show own_At p e below T2 m 57 #[rv ag, iv 2, rv ah, iv 2, rv bz, iv 1, iv 1, .val (.long (0 : Int64)), .second, iv 1, iv 3, .unset, .unset, .unset] [(.long ((-1 : Int32).toInt64))] _
  refine X2.ldc2Long hx hown (mvT hZ (own_w hw 108 rfl)) (g := (mkF m 57 #[rv ag, iv 2, rv ah, iv 2, rv bz, iv 1, iv 1, .val (.long (0 : Int64)), .second, iv 1, iv 3, .unset, .unset, .unset] [(.long ((-1 : Int32).toInt64))])) rfl (hb hby d21_57) _ ?_
  refine XS.land X2.here hx rfl (hb hby d21_60) rfl ?_
  refine XS.aloadN X2.here hx rfl (hb hby d21_61) rfl rfl ?_
  refine XS.iload X2.here hx rfl (hb hby d21_62) rfl ?_
  exact kt)
 have ls14 := own_iaload X2 hx hZ e2 f3 (j := (1 : Int32)) (i := 1) (by decide) (by decide) (by decide) (v := (.int (-1 : Int32))) (rfl) (g := (mkF m 64 #[rv ag, iv 2, rv ah, iv 2, rv bz, iv 1, iv 1, .val (.long (0 : Int64)), .second, iv 1, iv 3, .unset, .unset, .unset] [.int 1, .ref ag, (.long (((-1 : Int32).toInt64) &&& (4294967295 : Int64)))])) rfl rfl (hb hby d21_64)
 have st15 := fun t kt => st13 t (ls14 t kt)
 have st16 : own_K p e below T2 m 83 #[rv ag, iv 2, rv ah, iv 2, rv bz, iv 1, iv 1, .val (.long (0 : Int64)), .second, iv 1, iv 3, .val (.long (-8589934591 : Int64)), .second, .unset] [.int 1, .int 3, .ref bz] B0 := fun t kt => st15 t (by
  refine XS.i2l X2.here hx rfl (hb hby d21_65) rfl ?_
  show own_At p e below T2 m 66 #[rv ag, iv 2, rv ah, iv 2, rv bz, iv 1, iv 1, .val (.long (0 : Int64)), .second, iv 1, iv 3, .unset, .unset, .unset] [(.long ((-1 : Int32).toInt64)), (.long (((-1 : Int32).toInt64) &&& (4294967295 : Int64)))] _
  refine X2.ldc2Long hx hown (mvT hZ (own_w hw 108 rfl)) (g := (mkF m 66 #[rv ag, iv 2, rv ah, iv 2, rv bz, iv 1, iv 1, .val (.long (0 : Int64)), .second, iv 1, iv 3, .unset, .unset, .unset] [(.long ((-1 : Int32).toInt64)), (.long (((-1 : Int32).toInt64) &&& (4294967295 : Int64)))])) rfl (hb hby d21_66) _ ?_
  refine XS.land X2.here hx rfl (hb hby d21_69) rfl ?_
  refine XS.lmul X2.here hx rfl (hb hby d21_70) rfl ?_
  refine XS.lload X2.here hx rfl (hb hby d21_71) rfl ?_
  refine XS.ladd X2.here hx rfl (hb hby d21_73) rfl ?_
  refine XS.lstore X2.here hx rfl (hb hby d21_74) rfl (l' := #[rv ag, iv 2, rv ah, iv 2, rv bz, iv 1, iv 1, .val (.long (0 : Int64)), .second, iv 1, iv 3, .val (.long (((((-1 : Int32).toInt64) &&& (4294967295 : Int64)) * (((-1 : Int32).toInt64) &&& (4294967295 : Int64))) + (0 : Int64))), .second, .unset]) rfl ?_
  show own_At p e below T2 m 76 #[rv ag, iv 2, rv ah, iv 2, rv bz, iv 1, iv 1, .val (.long (0 : Int64)), .second, iv 1, iv 3, .val (.long (((((-1 : Int32).toInt64) &&& (4294967295 : Int64)) * (((-1 : Int32).toInt64) &&& (4294967295 : Int64))) + (0 : Int64))), .second, .unset] [] _
  rw [show (((((-1 : Int32).toInt64) &&& (4294967295 : Int64)) * (((-1 : Int32).toInt64) &&& (4294967295 : Int64))) + (0 : Int64)) = (-8589934591 : Int64) from (by decide +kernel)]
  refine XS.aload X2.here hx rfl (hb hby d21_76) rfl rfl ?_
  refine XS.iload X2.here hx rfl (hb hby d21_78) rfl ?_
  refine XS.lload X2.here hx rfl (hb hby d21_80) rfl ?_
  refine XS.l2i X2.here hx rfl (hb hby d21_82) rfl ?_
  show own_At p e below T2 m 83 #[rv ag, iv 2, rv ah, iv 2, rv bz, iv 1, iv 1, .val (.long (0 : Int64)), .second, iv 1, iv 3, .val (.long (-8589934591 : Int64)), .second, .unset] [(.int ((-8589934591 : Int64).toInt32)), .int 3, .ref bz] _
  rw [show ((-8589934591 : Int64).toInt32) = (1 : Int32) from (by decide +kernel)]
  exact kt)
 obtain ⟨T17, h17, X17, e17, W17, B17, ls17⟩ := own_iastore X2 hx hZ e2 f7 (j := (3 : Int32)) (i := 3) (by decide) (by decide) (by decide) (g := (mkF m 83 #[rv ag, iv 2, rv ah, iv 2, rv bz, iv 1, iv 1, .val (.long (0 : Int64)), .second, iv 1, iv 3, .val (.long (-8589934591 : Int64)), .second, .unset] [.int 1, .int 3, .ref bz])) rfl rfl (hb hby d21_83)
 have N17 := Fr.snoc X17 N0 g_bz
 have f18 := f3.other W17 ne_ag_bz
 have f19 := f4.other W17 ne_ah_bz
 have z20 := Nat.le_trans z5 (Keep.of_wr W17).1
 have k21 := k6.wr W17 (Or.inr sz_bz)
 have f22 := B17.congr (g := (fun q => .int (own_w4 (0) (0) (0) (1) q))) (fun q hq => by
  have z : q = 0 ∨ q = 1 ∨ q = 2 ∨ q = 3 := by omega
  rcases z with rfl | rfl | rfl | rfl <;> rfl)
 have st23 := fun t kt => st16 t (ls17 t kt)
 have hc24 : ¬ ((0 : Int32) < (0 : Int32)) := by decide
 have st25 : own_K p e below T17 m 55 #[rv ag, iv 2, rv ah, iv 2, rv bz, iv 1, iv 1, .val (.long (4294967294 : Int64)), .second, iv 0, iv 2, .val (.long (-8589934591 : Int64)), .second, .unset] [.int 0, .ref ah] B0 := fun t kt => st23 t (by
  refine XS.lload X17.here hx rfl (hb hby d21_84) rfl ?_
  refine XS.bipush X17.here hx rfl (hb hby d21_86) ?_
  refine XS.lushr X17.here hx rfl (hb hby d21_88) rfl ?_
  refine XS.lstore X17.here hx rfl (hb hby d21_89) rfl (l' := #[rv ag, iv 2, rv ah, iv 2, rv bz, iv 1, iv 1, .val (.long (((-8589934591 : Int64).toUInt64 >>> ((32 : Int32) &&& 0x3f).toInt64.toUInt64).toInt64)), .second, iv 1, iv 3, .val (.long (-8589934591 : Int64)), .second, .unset]) rfl ?_
  show own_At p e below T17 m 91 #[rv ag, iv 2, rv ah, iv 2, rv bz, iv 1, iv 1, .val (.long (((-8589934591 : Int64).toUInt64 >>> ((32 : Int32) &&& 0x3f).toInt64.toUInt64).toInt64)), .second, iv 1, iv 3, .val (.long (-8589934591 : Int64)), .second, .unset] [] _
  rw [show (((-8589934591 : Int64).toUInt64 >>> ((32 : Int32) &&& 0x3f).toInt64.toUInt64).toInt64) = (4294967294 : Int64) from (by decide +kernel)]
  refine XS.iinc X17.here hx rfl (hb hby d21_91) rfl (l' := #[rv ag, iv 2, rv ah, iv 2, rv bz, iv 1, iv 1, .val (.long (4294967294 : Int64)), .second, iv ((1 : Int32) + (-1 : Int32)), iv 3, .val (.long (-8589934591 : Int64)), .second, .unset]) rfl ?_
  show own_At p e below T17 m 94 #[rv ag, iv 2, rv ah, iv 2, rv bz, iv 1, iv 1, .val (.long (4294967294 : Int64)), .second, iv ((1 : Int32) + (-1 : Int32)), iv 3, .val (.long (-8589934591 : Int64)), .second, .unset] [] _
  rw [show ((1 : Int32) + (-1 : Int32)) = (0 : Int32) from (by decide +kernel)]
  refine XS.iinc X17.here hx rfl (hb hby d21_94) rfl (l' := #[rv ag, iv 2, rv ah, iv 2, rv bz, iv 1, iv 1, .val (.long (4294967294 : Int64)), .second, iv 0, iv ((3 : Int32) + (-1 : Int32)), .val (.long (-8589934591 : Int64)), .second, .unset]) rfl ?_
  show own_At p e below T17 m 97 #[rv ag, iv 2, rv ah, iv 2, rv bz, iv 1, iv 1, .val (.long (4294967294 : Int64)), .second, iv 0, iv ((3 : Int32) + (-1 : Int32)), .val (.long (-8589934591 : Int64)), .second, .unset] [] _
  rw [show ((3 : Int32) + (-1 : Int32)) = (2 : Int32) from (by decide +kernel)]
  refine XS.goto X17.here hx rfl (pc0 := 97) (pc' := 47) rfl (hb hby d21_97) (by decide) (by decide) ?_
  refine XS.iload X17.here hx rfl (hb hby d21_47) rfl ?_
  refine XS.ifNo X17.here hx rfl (hb hby d21_49) rfl ((if0 _ _).trans (flt hc24).1) ?_
  refine XS.aloadN X17.here hx rfl (hb hby d21_52) rfl rfl ?_
  refine XS.iload X17.here hx rfl (hb hby d21_53) rfl ?_
  exact kt)
 have ls26 := own_iaload X17 hx hZ e17 f19 (j := (0 : Int32)) (i := 0) (by decide) (by decide) (by decide) (v := (.int 2147483647)) (rfl) (g := (mkF m 55 #[rv ag, iv 2, rv ah, iv 2, rv bz, iv 1, iv 1, .val (.long (4294967294 : Int64)), .second, iv 0, iv 2, .val (.long (-8589934591 : Int64)), .second, .unset] [.int 0, .ref ah])) rfl rfl (hb hby d21_55)
 have st27 := fun t kt => st25 t (ls26 t kt)
 have st28 : own_K p e below T17 m 64 #[rv ag, iv 2, rv ah, iv 2, rv bz, iv 1, iv 1, .val (.long (4294967294 : Int64)), .second, iv 0, iv 2, .val (.long (-8589934591 : Int64)), .second, .unset] [.int 1, .ref ag, (.long (((2147483647 : Int32).toInt64) &&& (4294967295 : Int64)))] B0 := fun t kt => st27 t (by
  refine XS.i2l X17.here hx rfl (hb hby d21_56) rfl ?_
  show own_At p e below T17 m 57 #[rv ag, iv 2, rv ah, iv 2, rv bz, iv 1, iv 1, .val (.long (4294967294 : Int64)), .second, iv 0, iv 2, .val (.long (-8589934591 : Int64)), .second, .unset] [(.long ((2147483647 : Int32).toInt64))] _
  refine X17.ldc2Long hx hown (mvT hZ (own_w hw 108 rfl)) (g := (mkF m 57 #[rv ag, iv 2, rv ah, iv 2, rv bz, iv 1, iv 1, .val (.long (4294967294 : Int64)), .second, iv 0, iv 2, .val (.long (-8589934591 : Int64)), .second, .unset] [(.long ((2147483647 : Int32).toInt64))])) rfl (hb hby d21_57) _ ?_
  refine XS.land X17.here hx rfl (hb hby d21_60) rfl ?_
  refine XS.aloadN X17.here hx rfl (hb hby d21_61) rfl rfl ?_
  refine XS.iload X17.here hx rfl (hb hby d21_62) rfl ?_
  exact kt)
 have ls29 := own_iaload X17 hx hZ e17 f18 (j := (1 : Int32)) (i := 1) (by decide) (by decide) (by decide) (v := (.int (-1 : Int32))) (rfl) (g := (mkF m 64 #[rv ag, iv 2, rv ah, iv 2, rv bz, iv 1, iv 1, .val (.long (4294967294 : Int64)), .second, iv 0, iv 2, .val (.long (-8589934591 : Int64)), .second, .unset] [.int 1, .ref ag, (.long (((2147483647 : Int32).toInt64) &&& (4294967295 : Int64)))])) rfl rfl (hb hby d21_64)
 have st30 := fun t kt => st28 t (ls29 t kt)
 have st31 : own_K p e below T17 m 83 #[rv ag, iv 2, rv ah, iv 2, rv bz, iv 1, iv 1, .val (.long (4294967294 : Int64)), .second, iv 0, iv 2, .val (.long (9223372034707292159 : Int64)), .second, .unset] [.int 2147483647, .int 2, .ref bz] B0 := fun t kt => st30 t (by
  refine XS.i2l X17.here hx rfl (hb hby d21_65) rfl ?_
  show own_At p e below T17 m 66 #[rv ag, iv 2, rv ah, iv 2, rv bz, iv 1, iv 1, .val (.long (4294967294 : Int64)), .second, iv 0, iv 2, .val (.long (-8589934591 : Int64)), .second, .unset] [(.long ((-1 : Int32).toInt64)), (.long (((2147483647 : Int32).toInt64) &&& (4294967295 : Int64)))] _
  refine X17.ldc2Long hx hown (mvT hZ (own_w hw 108 rfl)) (g := (mkF m 66 #[rv ag, iv 2, rv ah, iv 2, rv bz, iv 1, iv 1, .val (.long (4294967294 : Int64)), .second, iv 0, iv 2, .val (.long (-8589934591 : Int64)), .second, .unset] [(.long ((-1 : Int32).toInt64)), (.long (((2147483647 : Int32).toInt64) &&& (4294967295 : Int64)))])) rfl (hb hby d21_66) _ ?_
  refine XS.land X17.here hx rfl (hb hby d21_69) rfl ?_
  refine XS.lmul X17.here hx rfl (hb hby d21_70) rfl ?_
  refine XS.lload X17.here hx rfl (hb hby d21_71) rfl ?_
  refine XS.ladd X17.here hx rfl (hb hby d21_73) rfl ?_
  refine XS.lstore X17.here hx rfl (hb hby d21_74) rfl (l' := #[rv ag, iv 2, rv ah, iv 2, rv bz, iv 1, iv 1, .val (.long (4294967294 : Int64)), .second, iv 0, iv 2, .val (.long (((((2147483647 : Int32).toInt64) &&& (4294967295 : Int64)) * (((-1 : Int32).toInt64) &&& (4294967295 : Int64))) + (4294967294 : Int64))), .second, .unset]) rfl ?_
  show own_At p e below T17 m 76 #[rv ag, iv 2, rv ah, iv 2, rv bz, iv 1, iv 1, .val (.long (4294967294 : Int64)), .second, iv 0, iv 2, .val (.long (((((2147483647 : Int32).toInt64) &&& (4294967295 : Int64)) * (((-1 : Int32).toInt64) &&& (4294967295 : Int64))) + (4294967294 : Int64))), .second, .unset] [] _
  rw [show (((((2147483647 : Int32).toInt64) &&& (4294967295 : Int64)) * (((-1 : Int32).toInt64) &&& (4294967295 : Int64))) + (4294967294 : Int64)) = (9223372034707292159 : Int64) from (by decide +kernel)]
  refine XS.aload X17.here hx rfl (hb hby d21_76) rfl rfl ?_
  refine XS.iload X17.here hx rfl (hb hby d21_78) rfl ?_
  refine XS.lload X17.here hx rfl (hb hby d21_80) rfl ?_
  refine XS.l2i X17.here hx rfl (hb hby d21_82) rfl ?_
  show own_At p e below T17 m 83 #[rv ag, iv 2, rv ah, iv 2, rv bz, iv 1, iv 1, .val (.long (4294967294 : Int64)), .second, iv 0, iv 2, .val (.long (9223372034707292159 : Int64)), .second, .unset] [(.int ((9223372034707292159 : Int64).toInt32)), .int 2, .ref bz] _
  rw [show ((9223372034707292159 : Int64).toInt32) = (2147483647 : Int32) from (by decide +kernel)]
  exact kt)
 obtain ⟨T32, h32, X32, e32, W32, B32, ls32⟩ := own_iastore X17 hx hZ e17 f22 (j := (2 : Int32)) (i := 2) (by decide) (by decide) (by decide) (g := (mkF m 83 #[rv ag, iv 2, rv ah, iv 2, rv bz, iv 1, iv 1, .val (.long (4294967294 : Int64)), .second, iv 0, iv 2, .val (.long (9223372034707292159 : Int64)), .second, .unset] [.int 2147483647, .int 2, .ref bz])) rfl rfl (hb hby d21_83)
 have N32 := Fr.snoc X32 N17 g_bz
 have f33 := f18.other W32 ne_ag_bz
 have f34 := f19.other W32 ne_ah_bz
 have z35 := Nat.le_trans z20 (Keep.of_wr W32).1
 have k36 := k21.wr W32 (Or.inr sz_bz)
 have f37 := B32.congr (g := (fun q => .int (own_w4 (0) (0) (2147483647) (1) q))) (fun q hq => by
  have z : q = 0 ∨ q = 1 ∨ q = 2 ∨ q = 3 := by omega
  rcases z with rfl | rfl | rfl | rfl <;> rfl)
 have st38 := fun t kt => st31 t (ls32 t kt)
 have hc39 : (-1 : Int32) < (0 : Int32) := by decide
 have st40 : own_K p e below T32 m 107 #[rv ag, iv 2, rv ah, iv 2, rv bz, iv 1, iv 1, .val (.long (2147483647 : Int64)), .second, iv (-1 : Int32), iv 1, .val (.long (9223372034707292159 : Int64)), .second, .unset] [.int 2147483647, .int 1, .ref bz] B0 := fun t kt => st38 t (by
  refine XS.lload X32.here hx rfl (hb hby d21_84) rfl ?_
  refine XS.bipush X32.here hx rfl (hb hby d21_86) ?_
  refine XS.lushr X32.here hx rfl (hb hby d21_88) rfl ?_
  refine XS.lstore X32.here hx rfl (hb hby d21_89) rfl (l' := #[rv ag, iv 2, rv ah, iv 2, rv bz, iv 1, iv 1, .val (.long (((9223372034707292159 : Int64).toUInt64 >>> ((32 : Int32) &&& 0x3f).toInt64.toUInt64).toInt64)), .second, iv 0, iv 2, .val (.long (9223372034707292159 : Int64)), .second, .unset]) rfl ?_
  show own_At p e below T32 m 91 #[rv ag, iv 2, rv ah, iv 2, rv bz, iv 1, iv 1, .val (.long (((9223372034707292159 : Int64).toUInt64 >>> ((32 : Int32) &&& 0x3f).toInt64.toUInt64).toInt64)), .second, iv 0, iv 2, .val (.long (9223372034707292159 : Int64)), .second, .unset] [] _
  rw [show (((9223372034707292159 : Int64).toUInt64 >>> ((32 : Int32) &&& 0x3f).toInt64.toUInt64).toInt64) = (2147483647 : Int64) from (by decide +kernel)]
  refine XS.iinc X32.here hx rfl (hb hby d21_91) rfl (l' := #[rv ag, iv 2, rv ah, iv 2, rv bz, iv 1, iv 1, .val (.long (2147483647 : Int64)), .second, iv ((0 : Int32) + (-1 : Int32)), iv 2, .val (.long (9223372034707292159 : Int64)), .second, .unset]) rfl ?_
  show own_At p e below T32 m 94 #[rv ag, iv 2, rv ah, iv 2, rv bz, iv 1, iv 1, .val (.long (2147483647 : Int64)), .second, iv ((0 : Int32) + (-1 : Int32)), iv 2, .val (.long (9223372034707292159 : Int64)), .second, .unset] [] _
  rw [show ((0 : Int32) + (-1 : Int32)) = (-1 : Int32) from (by decide +kernel)]
  refine XS.iinc X32.here hx rfl (hb hby d21_94) rfl (l' := #[rv ag, iv 2, rv ah, iv 2, rv bz, iv 1, iv 1, .val (.long (2147483647 : Int64)), .second, iv (-1 : Int32), iv ((2 : Int32) + (-1 : Int32)), .val (.long (9223372034707292159 : Int64)), .second, .unset]) rfl ?_
  show own_At p e below T32 m 97 #[rv ag, iv 2, rv ah, iv 2, rv bz, iv 1, iv 1, .val (.long (2147483647 : Int64)), .second, iv (-1 : Int32), iv ((2 : Int32) + (-1 : Int32)), .val (.long (9223372034707292159 : Int64)), .second, .unset] [] _
  rw [show ((2 : Int32) + (-1 : Int32)) = (1 : Int32) from (by decide +kernel)]
  refine XS.goto X32.here hx rfl (pc0 := 97) (pc' := 47) rfl (hb hby d21_97) (by decide) (by decide) ?_
  refine XS.iload X32.here hx rfl (hb hby d21_47) rfl ?_
  refine XS.ifYes X32.here hx rfl (pc0 := 49) (pc' := 100) rfl (hb hby d21_49) rfl ((if0 _ _).trans (tlt hc39).1) (by decide) (by decide) ?_
  refine XS.aload X32.here hx rfl (hb hby d21_100) rfl rfl ?_
  refine XS.iload X32.here hx rfl (hb hby d21_102) rfl ?_
  refine XS.lload X32.here hx rfl (hb hby d21_104) rfl ?_
  refine XS.l2i X32.here hx rfl (hb hby d21_106) rfl ?_
  show own_At p e below T32 m 107 #[rv ag, iv 2, rv ah, iv 2, rv bz, iv 1, iv 1, .val (.long (2147483647 : Int64)), .second, iv (-1 : Int32), iv 1, .val (.long (9223372034707292159 : Int64)), .second, .unset] [(.int ((2147483647 : Int64).toInt32)), .int 1, .ref bz] _
  rw [show ((2147483647 : Int64).toInt32) = (2147483647 : Int32) from (by decide +kernel)]
  exact kt)
 obtain ⟨T41, h41, X41, e41, W41, B41, ls41⟩ := own_iastore X32 hx hZ e32 f37 (j := (1 : Int32)) (i := 1) (by decide) (by decide) (by decide) (g := (mkF m 107 #[rv ag, iv 2, rv ah, iv 2, rv bz, iv 1, iv 1, .val (.long (2147483647 : Int64)), .second, iv (-1 : Int32), iv 1, .val (.long (9223372034707292159 : Int64)), .second, .unset] [.int 2147483647, .int 1, .ref bz])) rfl rfl (hb hby d21_107)
 have N41 := Fr.snoc X41 N32 g_bz
 have f42 := f33.other W41 ne_ag_bz
 have f43 := f34.other W41 ne_ah_bz
 have z44 := Nat.le_trans z35 (Keep.of_wr W41).1
 have k45 := k36.wr W41 (Or.inr sz_bz)
 have f46 := B41.congr (g := (fun q => .int (own_w4 (0) (2147483647) (2147483647) (1) q))) (fun q hq => by
  have z : q = 0 ∨ q = 1 ∨ q = 2 ∨ q = 3 := by omega
  rcases z with rfl | rfl | rfl | rfl <;> rfl)
 have st47 := fun t kt => st40 t (ls41 t kt)
 have hc48 : ¬ ((0 : Int32) < (0 : Int32)) := by decide
 have hc49 : ¬ ((1 : Int32) < (0 : Int32)) := by decide
 have st50 : own_K p e below T41 m 143 #[rv ag, iv 2, rv ah, iv 2, rv bz, iv 1, iv 1, .val (.long (0 : Int64)), .second, iv 0, iv 1, iv 2, .unset, .unset] [.int 1, .ref ah] B0 := fun t kt => st47 t (by
  refine XS.iload X41.here hx rfl (hb hby d21_108) rfl ?_
  refine XS.iconst X41.here hx rfl (hb hby d21_110) ?_
  refine XS.isub X41.here hx rfl (hb hby d21_111) rfl ?_
  refine XS.istore X41.here hx rfl (hb hby d21_112) rfl (l' := #[rv ag, iv 2, rv ah, iv 2, rv bz, iv 1, iv 1, .val (.long (2147483647 : Int64)), .second, iv ((1 : Int32) - (1 : Int32)), iv 1, .val (.long (9223372034707292159 : Int64)), .second, .unset]) rfl ?_
  show own_At p e below T41 m 114 #[rv ag, iv 2, rv ah, iv 2, rv bz, iv 1, iv 1, .val (.long (2147483647 : Int64)), .second, iv ((1 : Int32) - (1 : Int32)), iv 1, .val (.long (9223372034707292159 : Int64)), .second, .unset] [] _
  rw [show ((1 : Int32) - (1 : Int32)) = (0 : Int32) from (by decide +kernel)]
  refine XS.iload X41.here hx rfl (hb hby d21_114) rfl ?_
  refine XS.ifNo X41.here hx rfl (hb hby d21_116) rfl ((if0 _ _).trans (flt hc48).1) ?_
  refine XS.lconst X41.here hx rfl (hb hby d21_119) ?_
  refine XS.lstore X41.here hx rfl (hb hby d21_120) rfl (l' := #[rv ag, iv 2, rv ah, iv 2, rv bz, iv 1, iv 1, .val (.long (0 : Int64)), .second, iv 0, iv 1, .val (.long (9223372034707292159 : Int64)), .second, .unset]) rfl ?_
  refine XS.iload X41.here hx rfl (hb hby d21_122) rfl ?_
  refine XS.istore X41.here hx rfl (hb hby d21_124) rfl (l' := #[rv ag, iv 2, rv ah, iv 2, rv bz, iv 1, iv 1, .val (.long (0 : Int64)), .second, iv 0, iv 1, .val (.long (9223372034707292159 : Int64)), .second, .unset]) rfl ?_
  refine XS.iload X41.here hx rfl (hb hby d21_126) rfl ?_
  refine XS.iconst X41.here hx rfl (hb hby d21_128) ?_
  refine XS.iadd X41.here hx rfl (hb hby d21_129) rfl ?_
  refine XS.iload X41.here hx rfl (hb hby d21_130) rfl ?_
  refine XS.iadd X41.here hx rfl (hb hby d21_132) rfl ?_
  refine XS.istore X41.here hx rfl (hb hby d21_133) rfl (l' := #[rv ag, iv 2, rv ah, iv 2, rv bz, iv 1, iv 1, .val (.long (0 : Int64)), .second, iv 0, iv 1, iv (((1 : Int32) + (1 : Int32)) + (0 : Int32)), .unset, .unset]) rfl ?_
  show own_At p e below T41 m 135 #[rv ag, iv 2, rv ah, iv 2, rv bz, iv 1, iv 1, .val (.long (0 : Int64)), .second, iv 0, iv 1, iv (((1 : Int32) + (1 : Int32)) + (0 : Int32)), .unset, .unset] [] _
  rw [show (((1 : Int32) + (1 : Int32)) + (0 : Int32)) = (2 : Int32) from (by decide +kernel)]
  refine XS.iload X41.here hx rfl (hb hby d21_135) rfl ?_
  refine XS.ifNo X41.here hx rfl (hb hby d21_137) rfl ((if0 _ _).trans (flt hc49).1) ?_
  refine XS.aloadN X41.here hx rfl (hb hby d21_140) rfl rfl ?_
  refine XS.iload X41.here hx rfl (hb hby d21_141) rfl ?_
  exact kt)
 have ls51 := own_iaload X41 hx hZ e41 f43 (j := (1 : Int32)) (i := 1) (by decide) (by decide) (by decide) (v := (.int (-1 : Int32))) (rfl) (g := (mkF m 143 #[rv ag, iv 2, rv ah, iv 2, rv bz, iv 1, iv 1, .val (.long (0 : Int64)), .second, iv 0, iv 1, iv 2, .unset, .unset] [.int 1, .ref ah])) rfl rfl (hb hby d21_143)
 have st52 := fun t kt => st50 t (ls51 t kt)
 have st53 : own_K p e below T41 m 152 #[rv ag, iv 2, rv ah, iv 2, rv bz, iv 1, iv 1, .val (.long (0 : Int64)), .second, iv 0, iv 1, iv 2, .unset, .unset] [.int 0, .ref ag, (.long (((-1 : Int32).toInt64) &&& (4294967295 : Int64)))] B0 := fun t kt => st52 t (by
  refine XS.i2l X41.here hx rfl (hb hby d21_144) rfl ?_
  show own_At p e below T41 m 145 #[rv ag, iv 2, rv ah, iv 2, rv bz, iv 1, iv 1, .val (.long (0 : Int64)), .second, iv 0, iv 1, iv 2, .unset, .unset] [(.long ((-1 : Int32).toInt64))] _
  refine X41.ldc2Long hx hown (mvT hZ (own_w hw 108 rfl)) (g := (mkF m 145 #[rv ag, iv 2, rv ah, iv 2, rv bz, iv 1, iv 1, .val (.long (0 : Int64)), .second, iv 0, iv 1, iv 2, .unset, .unset] [(.long ((-1 : Int32).toInt64))])) rfl (hb hby d21_145) _ ?_
  refine XS.land X41.here hx rfl (hb hby d21_148) rfl ?_
  refine XS.aloadN X41.here hx rfl (hb hby d21_149) rfl rfl ?_
  refine XS.iload X41.here hx rfl (hb hby d21_150) rfl ?_
  exact kt)
 have ls54 := own_iaload X41 hx hZ e41 f42 (j := (0 : Int32)) (i := 0) (by decide) (by decide) (by decide) (v := (.int 2147483647)) (rfl) (g := (mkF m 152 #[rv ag, iv 2, rv ah, iv 2, rv bz, iv 1, iv 1, .val (.long (0 : Int64)), .second, iv 0, iv 1, iv 2, .unset, .unset] [.int 0, .ref ag, (.long (((-1 : Int32).toInt64) &&& (4294967295 : Int64)))])) rfl rfl (hb hby d21_152)
 have st55 := fun t kt => st53 t (ls54 t kt)
 have st56 : own_K p e below T41 m 163 #[rv ag, iv 2, rv ah, iv 2, rv bz, iv 1, iv 1, .val (.long (0 : Int64)), .second, iv 0, iv 1, iv 2, .unset, .unset] [.int 2, .ref bz, (.long ((((-1 : Int32).toInt64) &&& (4294967295 : Int64)) * (((2147483647 : Int32).toInt64) &&& (4294967295 : Int64))))] B0 := fun t kt => st55 t (by
  refine XS.i2l X41.here hx rfl (hb hby d21_153) rfl ?_
  show own_At p e below T41 m 154 #[rv ag, iv 2, rv ah, iv 2, rv bz, iv 1, iv 1, .val (.long (0 : Int64)), .second, iv 0, iv 1, iv 2, .unset, .unset] [(.long ((2147483647 : Int32).toInt64)), (.long (((-1 : Int32).toInt64) &&& (4294967295 : Int64)))] _
  refine X41.ldc2Long hx hown (mvT hZ (own_w hw 108 rfl)) (g := (mkF m 154 #[rv ag, iv 2, rv ah, iv 2, rv bz, iv 1, iv 1, .val (.long (0 : Int64)), .second, iv 0, iv 1, iv 2, .unset, .unset] [(.long ((2147483647 : Int32).toInt64)), (.long (((-1 : Int32).toInt64) &&& (4294967295 : Int64)))])) rfl (hb hby d21_154) _ ?_
  refine XS.land X41.here hx rfl (hb hby d21_157) rfl ?_
  refine XS.lmul X41.here hx rfl (hb hby d21_158) rfl ?_
  refine XS.aload X41.here hx rfl (hb hby d21_159) rfl rfl ?_
  refine XS.iload X41.here hx rfl (hb hby d21_161) rfl ?_
  exact kt)
 have ls57 := own_iaload X41 hx hZ e41 f46 (j := (2 : Int32)) (i := 2) (by decide) (by decide) (by decide) (v := (.int 2147483647)) (rfl) (g := (mkF m 163 #[rv ag, iv 2, rv ah, iv 2, rv bz, iv 1, iv 1, .val (.long (0 : Int64)), .second, iv 0, iv 1, iv 2, .unset, .unset] [.int 2, .ref bz, (.long ((((-1 : Int32).toInt64) &&& (4294967295 : Int64)) * (((2147483647 : Int32).toInt64) &&& (4294967295 : Int64))))])) rfl rfl (hb hby d21_163)
 have st58 := fun t kt => st56 t (ls57 t kt)
 have st59 : own_K p e below T41 m 182 #[rv ag, iv 2, rv ah, iv 2, rv bz, iv 1, iv 1, .val (.long (0 : Int64)), .second, iv 0, iv 1, iv 2, .val (.long (9223372032559808512 : Int64)), .second] [.int 0, .int 2, .ref bz] B0 := fun t kt => st58 t (by
  refine XS.i2l X41.here hx rfl (hb hby d21_164) rfl ?_
  show own_At p e below T41 m 165 #[rv ag, iv 2, rv ah, iv 2, rv bz, iv 1, iv 1, .val (.long (0 : Int64)), .second, iv 0, iv 1, iv 2, .unset, .unset] [(.long ((2147483647 : Int32).toInt64)), (.long ((((-1 : Int32).toInt64) &&& (4294967295 : Int64)) * (((2147483647 : Int32).toInt64) &&& (4294967295 : Int64))))] _
  refine X41.ldc2Long hx hown (mvT hZ (own_w hw 108 rfl)) (g := (mkF m 165 #[rv ag, iv 2, rv ah, iv 2, rv bz, iv 1, iv 1, .val (.long (0 : Int64)), .second, iv 0, iv 1, iv 2, .unset, .unset] [(.long ((2147483647 : Int32).toInt64)), (.long ((((-1 : Int32).toInt64) &&& (4294967295 : Int64)) * (((2147483647 : Int32).toInt64) &&& (4294967295 : Int64))))])) rfl (hb hby d21_165) _ ?_
  refine XS.land X41.here hx rfl (hb hby d21_168) rfl ?_
  refine XS.ladd X41.here hx rfl (hb hby d21_169) rfl ?_
  refine XS.lload X41.here hx rfl (hb hby d21_170) rfl ?_
  refine XS.ladd X41.here hx rfl (hb hby d21_172) rfl ?_
  refine XS.lstore X41.here hx rfl (hb hby d21_173) rfl (l' := #[rv ag, iv 2, rv ah, iv 2, rv bz, iv 1, iv 1, .val (.long (0 : Int64)), .second, iv 0, iv 1, iv 2, .val (.long ((((((-1 : Int32).toInt64) &&& (4294967295 : Int64)) * (((2147483647 : Int32).toInt64) &&& (4294967295 : Int64))) + (((2147483647 : Int32).toInt64) &&& (4294967295 : Int64))) + (0 : Int64))), .second]) rfl ?_
  show own_At p e below T41 m 175 #[rv ag, iv 2, rv ah, iv 2, rv bz, iv 1, iv 1, .val (.long (0 : Int64)), .second, iv 0, iv 1, iv 2, .val (.long ((((((-1 : Int32).toInt64) &&& (4294967295 : Int64)) * (((2147483647 : Int32).toInt64) &&& (4294967295 : Int64))) + (((2147483647 : Int32).toInt64) &&& (4294967295 : Int64))) + (0 : Int64))), .second] [] _
  rw [show ((((((-1 : Int32).toInt64) &&& (4294967295 : Int64)) * (((2147483647 : Int32).toInt64) &&& (4294967295 : Int64))) + (((2147483647 : Int32).toInt64) &&& (4294967295 : Int64))) + (0 : Int64)) = (9223372032559808512 : Int64) from (by decide +kernel)]
  refine XS.aload X41.here hx rfl (hb hby d21_175) rfl rfl ?_
  refine XS.iload X41.here hx rfl (hb hby d21_177) rfl ?_
  refine XS.lload X41.here hx rfl (hb hby d21_179) rfl ?_
  refine XS.l2i X41.here hx rfl (hb hby d21_181) rfl ?_
  show own_At p e below T41 m 182 #[rv ag, iv 2, rv ah, iv 2, rv bz, iv 1, iv 1, .val (.long (0 : Int64)), .second, iv 0, iv 1, iv 2, .val (.long (9223372032559808512 : Int64)), .second] [(.int ((9223372032559808512 : Int64).toInt32)), .int 2, .ref bz] _
  rw [show ((9223372032559808512 : Int64).toInt32) = (0 : Int32) from (by decide +kernel)]
  exact kt)
 obtain ⟨T60, h60, X60, e60, W60, B60, ls60⟩ := own_iastore X41 hx hZ e41 f46 (j := (2 : Int32)) (i := 2) (by decide) (by decide) (by decide) (g := (mkF m 182 #[rv ag, iv 2, rv ah, iv 2, rv bz, iv 1, iv 1, .val (.long (0 : Int64)), .second, iv 0, iv 1, iv 2, .val (.long (9223372032559808512 : Int64)), .second] [.int 0, .int 2, .ref bz])) rfl rfl (hb hby d21_182)
 have N60 := Fr.snoc X60 N41 g_bz
 have f61 := f42.other W60 ne_ag_bz
 have f62 := f43.other W60 ne_ah_bz
 have z63 := Nat.le_trans z44 (Keep.of_wr W60).1
 have k64 := k45.wr W60 (Or.inr sz_bz)
 have f65 := B60.congr (g := (fun q => .int (own_w4 (0) (2147483647) (0) (1) q))) (fun q hq => by
  have z : q = 0 ∨ q = 1 ∨ q = 2 ∨ q = 3 := by omega
  rcases z with rfl | rfl | rfl | rfl <;> rfl)
 have st66 := fun t kt => st59 t (ls60 t kt)
 have hc67 : ¬ ((0 : Int32) < (0 : Int32)) := by decide
 have st68 : own_K p e below T60 m 143 #[rv ag, iv 2, rv ah, iv 2, rv bz, iv 1, iv 1, .val (.long (2147483647 : Int64)), .second, iv 0, iv 0, iv 1, .val (.long (9223372032559808512 : Int64)), .second] [.int 0, .ref ah] B0 := fun t kt => st66 t (by
  refine XS.lload X60.here hx rfl (hb hby d21_183) rfl ?_
  refine XS.bipush X60.here hx rfl (hb hby d21_185) ?_
  refine XS.lushr X60.here hx rfl (hb hby d21_187) rfl ?_
  refine XS.lstore X60.here hx rfl (hb hby d21_188) rfl (l' := #[rv ag, iv 2, rv ah, iv 2, rv bz, iv 1, iv 1, .val (.long (((9223372032559808512 : Int64).toUInt64 >>> ((32 : Int32) &&& 0x3f).toInt64.toUInt64).toInt64)), .second, iv 0, iv 1, iv 2, .val (.long (9223372032559808512 : Int64)), .second]) rfl ?_
  show own_At p e below T60 m 190 #[rv ag, iv 2, rv ah, iv 2, rv bz, iv 1, iv 1, .val (.long (((9223372032559808512 : Int64).toUInt64 >>> ((32 : Int32) &&& 0x3f).toInt64.toUInt64).toInt64)), .second, iv 0, iv 1, iv 2, .val (.long (9223372032559808512 : Int64)), .second] [] _
  rw [show (((9223372032559808512 : Int64).toUInt64 >>> ((32 : Int32) &&& 0x3f).toInt64.toUInt64).toInt64) = (2147483647 : Int64) from (by decide +kernel)]
  refine XS.iinc X60.here hx rfl (hb hby d21_190) rfl (l' := #[rv ag, iv 2, rv ah, iv 2, rv bz, iv 1, iv 1, .val (.long (2147483647 : Int64)), .second, iv 0, iv ((1 : Int32) + (-1 : Int32)), iv 2, .val (.long (9223372032559808512 : Int64)), .second]) rfl ?_
  show own_At p e below T60 m 193 #[rv ag, iv 2, rv ah, iv 2, rv bz, iv 1, iv 1, .val (.long (2147483647 : Int64)), .second, iv 0, iv ((1 : Int32) + (-1 : Int32)), iv 2, .val (.long (9223372032559808512 : Int64)), .second] [] _
  rw [show ((1 : Int32) + (-1 : Int32)) = (0 : Int32) from (by decide +kernel)]
  refine XS.iinc X60.here hx rfl (hb hby d21_193) rfl (l' := #[rv ag, iv 2, rv ah, iv 2, rv bz, iv 1, iv 1, .val (.long (2147483647 : Int64)), .second, iv 0, iv 0, iv ((2 : Int32) + (-1 : Int32)), .val (.long (9223372032559808512 : Int64)), .second]) rfl ?_
  show own_At p e below T60 m 196 #[rv ag, iv 2, rv ah, iv 2, rv bz, iv 1, iv 1, .val (.long (2147483647 : Int64)), .second, iv 0, iv 0, iv ((2 : Int32) + (-1 : Int32)), .val (.long (9223372032559808512 : Int64)), .second] [] _
  rw [show ((2 : Int32) + (-1 : Int32)) = (1 : Int32) from (by decide +kernel)]
  refine XS.goto X60.here hx rfl (pc0 := 196) (pc' := 135) rfl (hb hby d21_196) (by decide) (by decide) ?_
  refine XS.iload X60.here hx rfl (hb hby d21_135) rfl ?_
  refine XS.ifNo X60.here hx rfl (hb hby d21_137) rfl ((if0 _ _).trans (flt hc67).1) ?_
  refine XS.aloadN X60.here hx rfl (hb hby d21_140) rfl rfl ?_
  refine XS.iload X60.here hx rfl (hb hby d21_141) rfl ?_
  exact kt)
 have ls69 := own_iaload X60 hx hZ e60 f62 (j := (0 : Int32)) (i := 0) (by decide) (by decide) (by decide) (v := (.int 2147483647)) (rfl) (g := (mkF m 143 #[rv ag, iv 2, rv ah, iv 2, rv bz, iv 1, iv 1, .val (.long (2147483647 : Int64)), .second, iv 0, iv 0, iv 1, .val (.long (9223372032559808512 : Int64)), .second] [.int 0, .ref ah])) rfl rfl (hb hby d21_143)
 have st70 := fun t kt => st68 t (ls69 t kt)
 have st71 : own_K p e below T60 m 152 #[rv ag, iv 2, rv ah, iv 2, rv bz, iv 1, iv 1, .val (.long (2147483647 : Int64)), .second, iv 0, iv 0, iv 1, .val (.long (9223372032559808512 : Int64)), .second] [.int 0, .ref ag, (.long (((2147483647 : Int32).toInt64) &&& (4294967295 : Int64)))] B0 := fun t kt => st70 t (by
  refine XS.i2l X60.here hx rfl (hb hby d21_144) rfl ?_
  show own_At p e below T60 m 145 #[rv ag, iv 2, rv ah, iv 2, rv bz, iv 1, iv 1, .val (.long (2147483647 : Int64)), .second, iv 0, iv 0, iv 1, .val (.long (9223372032559808512 : Int64)), .second] [(.long ((2147483647 : Int32).toInt64))] _
  refine X60.ldc2Long hx hown (mvT hZ (own_w hw 108 rfl)) (g := (mkF m 145 #[rv ag, iv 2, rv ah, iv 2, rv bz, iv 1, iv 1, .val (.long (2147483647 : Int64)), .second, iv 0, iv 0, iv 1, .val (.long (9223372032559808512 : Int64)), .second] [(.long ((2147483647 : Int32).toInt64))])) rfl (hb hby d21_145) _ ?_
  refine XS.land X60.here hx rfl (hb hby d21_148) rfl ?_
  refine XS.aloadN X60.here hx rfl (hb hby d21_149) rfl rfl ?_
  refine XS.iload X60.here hx rfl (hb hby d21_150) rfl ?_
  exact kt)
 have ls72 := own_iaload X60 hx hZ e60 f61 (j := (0 : Int32)) (i := 0) (by decide) (by decide) (by decide) (v := (.int 2147483647)) (rfl) (g := (mkF m 152 #[rv ag, iv 2, rv ah, iv 2, rv bz, iv 1, iv 1, .val (.long (2147483647 : Int64)), .second, iv 0, iv 0, iv 1, .val (.long (9223372032559808512 : Int64)), .second] [.int 0, .ref ag, (.long (((2147483647 : Int32).toInt64) &&& (4294967295 : Int64)))])) rfl rfl (hb hby d21_152)
 have st73 := fun t kt => st71 t (ls72 t kt)
 have st74 : own_K p e below T60 m 163 #[rv ag, iv 2, rv ah, iv 2, rv bz, iv 1, iv 1, .val (.long (2147483647 : Int64)), .second, iv 0, iv 0, iv 1, .val (.long (9223372032559808512 : Int64)), .second] [.int 1, .ref bz, (.long ((((2147483647 : Int32).toInt64) &&& (4294967295 : Int64)) * (((2147483647 : Int32).toInt64) &&& (4294967295 : Int64))))] B0 := fun t kt => st73 t (by
  refine XS.i2l X60.here hx rfl (hb hby d21_153) rfl ?_
  show own_At p e below T60 m 154 #[rv ag, iv 2, rv ah, iv 2, rv bz, iv 1, iv 1, .val (.long (2147483647 : Int64)), .second, iv 0, iv 0, iv 1, .val (.long (9223372032559808512 : Int64)), .second] [(.long ((2147483647 : Int32).toInt64)), (.long (((2147483647 : Int32).toInt64) &&& (4294967295 : Int64)))] _
  refine X60.ldc2Long hx hown (mvT hZ (own_w hw 108 rfl)) (g := (mkF m 154 #[rv ag, iv 2, rv ah, iv 2, rv bz, iv 1, iv 1, .val (.long (2147483647 : Int64)), .second, iv 0, iv 0, iv 1, .val (.long (9223372032559808512 : Int64)), .second] [(.long ((2147483647 : Int32).toInt64)), (.long (((2147483647 : Int32).toInt64) &&& (4294967295 : Int64)))])) rfl (hb hby d21_154) _ ?_
  refine XS.land X60.here hx rfl (hb hby d21_157) rfl ?_
  refine XS.lmul X60.here hx rfl (hb hby d21_158) rfl ?_
  refine XS.aload X60.here hx rfl (hb hby d21_159) rfl rfl ?_
  refine XS.iload X60.here hx rfl (hb hby d21_161) rfl ?_
  exact kt)
 have ls75 := own_iaload X60 hx hZ e60 f65 (j := (1 : Int32)) (i := 1) (by decide) (by decide) (by decide) (v := (.int 2147483647)) (rfl) (g := (mkF m 163 #[rv ag, iv 2, rv ah, iv 2, rv bz, iv 1, iv 1, .val (.long (2147483647 : Int64)), .second, iv 0, iv 0, iv 1, .val (.long (9223372032559808512 : Int64)), .second] [.int 1, .ref bz, (.long ((((2147483647 : Int32).toInt64) &&& (4294967295 : Int64)) * (((2147483647 : Int32).toInt64) &&& (4294967295 : Int64))))])) rfl rfl (hb hby d21_163)
 have st76 := fun t kt => st74 t (ls75 t kt)
 have st77 : own_K p e below T60 m 182 #[rv ag, iv 2, rv ah, iv 2, rv bz, iv 1, iv 1, .val (.long (2147483647 : Int64)), .second, iv 0, iv 0, iv 1, .val (.long (4611686018427387903 : Int64)), .second] [.int (-1 : Int32), .int 1, .ref bz] B0 := fun t kt => st76 t (by
  refine XS.i2l X60.here hx rfl (hb hby d21_164) rfl ?_
  show own_At p e below T60 m 165 #[rv ag, iv 2, rv ah, iv 2, rv bz, iv 1, iv 1, .val (.long (2147483647 : Int64)), .second, iv 0, iv 0, iv 1, .val (.long (9223372032559808512 : Int64)), .second] [(.long ((2147483647 : Int32).toInt64)), (.long ((((2147483647 : Int32).toInt64) &&& (4294967295 : Int64)) * (((2147483647 : Int32).toInt64) &&& (4294967295 : Int64))))] _
  refine X60.ldc2Long hx hown (mvT hZ (own_w hw 108 rfl)) (g := (mkF m 165 #[rv ag, iv 2, rv ah, iv 2, rv bz, iv 1, iv 1, .val (.long (2147483647 : Int64)), .second, iv 0, iv 0, iv 1, .val (.long (9223372032559808512 : Int64)), .second] [(.long ((2147483647 : Int32).toInt64)), (.long ((((2147483647 : Int32).toInt64) &&& (4294967295 : Int64)) * (((2147483647 : Int32).toInt64) &&& (4294967295 : Int64))))])) rfl (hb hby d21_165) _ ?_
  refine XS.land X60.here hx rfl (hb hby d21_168) rfl ?_
  refine XS.ladd X60.here hx rfl (hb hby d21_169) rfl ?_
  refine XS.lload X60.here hx rfl (hb hby d21_170) rfl ?_
  refine XS.ladd X60.here hx rfl (hb hby d21_172) rfl ?_
  refine XS.lstore X60.here hx rfl (hb hby d21_173) rfl (l' := #[rv ag, iv 2, rv ah, iv 2, rv bz, iv 1, iv 1, .val (.long (2147483647 : Int64)), .second, iv 0, iv 0, iv 1, .val (.long ((((((2147483647 : Int32).toInt64) &&& (4294967295 : Int64)) * (((2147483647 : Int32).toInt64) &&& (4294967295 : Int64))) + (((2147483647 : Int32).toInt64) &&& (4294967295 : Int64))) + (2147483647 : Int64))), .second]) rfl ?_
  show own_At p e below T60 m 175 #[rv ag, iv 2, rv ah, iv 2, rv bz, iv 1, iv 1, .val (.long (2147483647 : Int64)), .second, iv 0, iv 0, iv 1, .val (.long ((((((2147483647 : Int32).toInt64) &&& (4294967295 : Int64)) * (((2147483647 : Int32).toInt64) &&& (4294967295 : Int64))) + (((2147483647 : Int32).toInt64) &&& (4294967295 : Int64))) + (2147483647 : Int64))), .second] [] _
  rw [show ((((((2147483647 : Int32).toInt64) &&& (4294967295 : Int64)) * (((2147483647 : Int32).toInt64) &&& (4294967295 : Int64))) + (((2147483647 : Int32).toInt64) &&& (4294967295 : Int64))) + (2147483647 : Int64)) = (4611686018427387903 : Int64) from (by decide +kernel)]
  refine XS.aload X60.here hx rfl (hb hby d21_175) rfl rfl ?_
  refine XS.iload X60.here hx rfl (hb hby d21_177) rfl ?_
  refine XS.lload X60.here hx rfl (hb hby d21_179) rfl ?_
  refine XS.l2i X60.here hx rfl (hb hby d21_181) rfl ?_
  show own_At p e below T60 m 182 #[rv ag, iv 2, rv ah, iv 2, rv bz, iv 1, iv 1, .val (.long (2147483647 : Int64)), .second, iv 0, iv 0, iv 1, .val (.long (4611686018427387903 : Int64)), .second] [(.int ((4611686018427387903 : Int64).toInt32)), .int 1, .ref bz] _
  rw [show ((4611686018427387903 : Int64).toInt32) = (-1 : Int32) from (by decide +kernel)]
  exact kt)
 obtain ⟨T78, h78, X78, e78, W78, B78, ls78⟩ := own_iastore X60 hx hZ e60 f65 (j := (1 : Int32)) (i := 1) (by decide) (by decide) (by decide) (g := (mkF m 182 #[rv ag, iv 2, rv ah, iv 2, rv bz, iv 1, iv 1, .val (.long (2147483647 : Int64)), .second, iv 0, iv 0, iv 1, .val (.long (4611686018427387903 : Int64)), .second] [.int (-1 : Int32), .int 1, .ref bz])) rfl rfl (hb hby d21_182)
 have N78 := Fr.snoc X78 N60 g_bz
 have z81 := Nat.le_trans z63 (Keep.of_wr W78).1
 have k82 := k64.wr W78 (Or.inr sz_bz)
 have f83 := B78.congr (g := (fun q => .int (own_w4 (0) (-1) (0) (1) q))) (fun q hq => by
  have z : q = 0 ∨ q = 1 ∨ q = 2 ∨ q = 3 := by omega
  rcases z with rfl | rfl | rfl | rfl <;> rfl)
 have st84 := fun t kt => st77 t (ls78 t kt)
 have hc85 : (-1 : Int32) < (0 : Int32) := by decide
 have st86 : own_K p e below T78 m 206 #[rv ag, iv 2, rv ah, iv 2, rv bz, iv 1, iv 1, .val (.long (1073741823 : Int64)), .second, iv 0, iv (-1 : Int32), iv 0, .val (.long (4611686018427387903 : Int64)), .second] [.int 1073741823, .int 0, .ref bz] B0 := fun t kt => st84 t (by
  refine XS.lload X78.here hx rfl (hb hby d21_183) rfl ?_
  refine XS.bipush X78.here hx rfl (hb hby d21_185) ?_
  refine XS.lushr X78.here hx rfl (hb hby d21_187) rfl ?_
  refine XS.lstore X78.here hx rfl (hb hby d21_188) rfl (l' := #[rv ag, iv 2, rv ah, iv 2, rv bz, iv 1, iv 1, .val (.long (((4611686018427387903 : Int64).toUInt64 >>> ((32 : Int32) &&& 0x3f).toInt64.toUInt64).toInt64)), .second, iv 0, iv 0, iv 1, .val (.long (4611686018427387903 : Int64)), .second]) rfl ?_
  show own_At p e below T78 m 190 #[rv ag, iv 2, rv ah, iv 2, rv bz, iv 1, iv 1, .val (.long (((4611686018427387903 : Int64).toUInt64 >>> ((32 : Int32) &&& 0x3f).toInt64.toUInt64).toInt64)), .second, iv 0, iv 0, iv 1, .val (.long (4611686018427387903 : Int64)), .second] [] _
  rw [show (((4611686018427387903 : Int64).toUInt64 >>> ((32 : Int32) &&& 0x3f).toInt64.toUInt64).toInt64) = (1073741823 : Int64) from (by decide +kernel)]
  refine XS.iinc X78.here hx rfl (hb hby d21_190) rfl (l' := #[rv ag, iv 2, rv ah, iv 2, rv bz, iv 1, iv 1, .val (.long (1073741823 : Int64)), .second, iv 0, iv ((0 : Int32) + (-1 : Int32)), iv 1, .val (.long (4611686018427387903 : Int64)), .second]) rfl ?_
  show own_At p e below T78 m 193 #[rv ag, iv 2, rv ah, iv 2, rv bz, iv 1, iv 1, .val (.long (1073741823 : Int64)), .second, iv 0, iv ((0 : Int32) + (-1 : Int32)), iv 1, .val (.long (4611686018427387903 : Int64)), .second] [] _
  rw [show ((0 : Int32) + (-1 : Int32)) = (-1 : Int32) from (by decide +kernel)]
  refine XS.iinc X78.here hx rfl (hb hby d21_193) rfl (l' := #[rv ag, iv 2, rv ah, iv 2, rv bz, iv 1, iv 1, .val (.long (1073741823 : Int64)), .second, iv 0, iv (-1 : Int32), iv ((1 : Int32) + (-1 : Int32)), .val (.long (4611686018427387903 : Int64)), .second]) rfl ?_
  show own_At p e below T78 m 196 #[rv ag, iv 2, rv ah, iv 2, rv bz, iv 1, iv 1, .val (.long (1073741823 : Int64)), .second, iv 0, iv (-1 : Int32), iv ((1 : Int32) + (-1 : Int32)), .val (.long (4611686018427387903 : Int64)), .second] [] _
  rw [show ((1 : Int32) + (-1 : Int32)) = (0 : Int32) from (by decide +kernel)]
  refine XS.goto X78.here hx rfl (pc0 := 196) (pc' := 135) rfl (hb hby d21_196) (by decide) (by decide) ?_
  refine XS.iload X78.here hx rfl (hb hby d21_135) rfl ?_
  refine XS.ifYes X78.here hx rfl (pc0 := 137) (pc' := 199) rfl (hb hby d21_137) rfl ((if0 _ _).trans (tlt hc85).1) (by decide) (by decide) ?_
  refine XS.aload X78.here hx rfl (hb hby d21_199) rfl rfl ?_
  refine XS.iload X78.here hx rfl (hb hby d21_201) rfl ?_
  refine XS.lload X78.here hx rfl (hb hby d21_203) rfl ?_
  refine XS.l2i X78.here hx rfl (hb hby d21_205) rfl ?_
  show own_At p e below T78 m 206 #[rv ag, iv 2, rv ah, iv 2, rv bz, iv 1, iv 1, .val (.long (1073741823 : Int64)), .second, iv 0, iv (-1 : Int32), iv 0, .val (.long (4611686018427387903 : Int64)), .second] [(.int ((1073741823 : Int64).toInt32)), .int 0, .ref bz] _
  rw [show ((1073741823 : Int64).toInt32) = (1073741823 : Int32) from (by decide +kernel)]
  exact kt)
 obtain ⟨T87, h87, X87, e87, W87, B87, ls87⟩ := own_iastore X78 hx hZ e78 f83 (j := (0 : Int32)) (i := 0) (by decide) (by decide) (by decide) (g := (mkF m 206 #[rv ag, iv 2, rv ah, iv 2, rv bz, iv 1, iv 1, .val (.long (1073741823 : Int64)), .second, iv 0, iv (-1 : Int32), iv 0, .val (.long (4611686018427387903 : Int64)), .second] [.int 1073741823, .int 0, .ref bz])) rfl rfl (hb hby d21_206)
 have N87 := Fr.snoc X87 N78 g_bz
 have z90 := Nat.le_trans z81 (Keep.of_wr W87).1
 have k91 := k82.wr W87 (Or.inr sz_bz)
 have f92 := B87.congr (g := (fun q => .int (own_w4 (1073741823) (-1) (0) (1) q))) (fun q hq => by
  have z : q = 0 ∨ q = 1 ∨ q = 2 ∨ q = 3 := by omega
  rcases z with rfl | rfl | rfl | rfl <;> rfl)
 have st93 := fun t kt => st86 t (ls87 t kt)
 have hc94 : (-1 : Int32) < (0 : Int32) := by decide
 have st95 : own_K p e below T87 m 215 #[rv ag, iv 2, rv ah, iv 2, rv bz, iv 1, iv 1, .val (.long (1073741823 : Int64)), .second, iv (-1 : Int32), iv (-1 : Int32), iv 0, .val (.long (4611686018427387903 : Int64)), .second] [.ref bz] B0 := fun t kt => st93 t (by
  refine XS.iinc X87.here hx rfl (hb hby d21_207) rfl (l' := #[rv ag, iv 2, rv ah, iv 2, rv bz, iv 1, iv 1, .val (.long (1073741823 : Int64)), .second, iv ((0 : Int32) + (-1 : Int32)), iv (-1 : Int32), iv 0, .val (.long (4611686018427387903 : Int64)), .second]) rfl ?_
  show own_At p e below T87 m 210 #[rv ag, iv 2, rv ah, iv 2, rv bz, iv 1, iv 1, .val (.long (1073741823 : Int64)), .second, iv ((0 : Int32) + (-1 : Int32)), iv (-1 : Int32), iv 0, .val (.long (4611686018427387903 : Int64)), .second] [] _
  rw [show ((0 : Int32) + (-1 : Int32)) = (-1 : Int32) from (by decide +kernel)]
  refine XS.goto X87.here hx rfl (pc0 := 210) (pc' := 114) rfl (hb hby d21_210) (by decide) (by decide) ?_
  refine XS.iload X87.here hx rfl (hb hby d21_114) rfl ?_
  refine XS.ifYes X87.here hx rfl (pc0 := 116) (pc' := 213) rfl (hb hby d21_116) rfl ((if0 _ _).trans (tlt hc94).1) (by decide) (by decide) ?_
  refine XS.aload X87.here hx rfl (hb hby d21_213) rfl rfl ?_
  exact kt)
 obtain ⟨fs, hr, hrun, hended, hW, hsame⟩ := X87.leave (v := (some (.ref bz))) (fun h => by rw [Bd.returns] at h; cases h)
 subst hB0
 refine ⟨_, _, st95 _ ?_, hrun, hended, _, _, rfl, ?_, ⟨_, rfl⟩, hW, hsame.mono (by decide) (by decide)⟩
 ·exact retOut X87 hx Bd.returns rfl (Or.inr (Or.inr (Or.inr (Or.inr ⟨rfl, rfl, rfl⟩)))) (hb hby d21_215) hr
 ·show Q_rm_im Z ag ah h0 n0 _ T87.heap _
  rw [e87]
  exact ⟨_, rfl, N87, k91, g_bz, f92⟩
def Q_rm_ml (Z : State) (ag : Addr) (ah : Addr) (h0 : Heap) (n0 : Nat) (v : Option Value) (h : Heap) (L : List Loc) : Prop := ∃ rq, v = some (.ref rq) ∧ Fr n0 L ∧ Keep h0 h [] ∧ n0 ≤ rq ∧ own_Av Z h rq .int 4 (fun q => .int ((own_w4 1073741823 (-1) 0 1) q))
set_option maxRecDepth 65536 in
set_option maxHeartbeats 40000000 in
theorem rm_ml (l : Launch) (Z : State) (a0 : Array Value) (hw : ∀ d ∈ tables_1, d.before a0 Z = true) (ws : List Jvm.Cond) (ag : Addr) (ah : Addr) (h0 : Heap) (n0 : Nat) (Z0 : n0 ≤ h0.size) (Ag : own_Av Z h0 ag .int 2 (fun q => .int (if q = 0 then 2147483647 else -1))) (Ah : own_Av Z h0 ah .int 2 (fun q => .int (if q = 0 then 2147483647 else -1))) :
  MetFree l (⟨"java/math/BigInteger", "multiplyToLen", "([II[II[I)[I"⟩ : MethodName) (head1 (Jvm.Cond.code (⟨"java/math/BigInteger", "multiplyToLen", "([II[II[I)[I"⟩ : MethodName) jdk_2097_method_45_code 5 (some (.array .int)) :: ws) ({ frames := 2, cells := 1, slots := 4, locals := 25 } : Room)) (fun a U => a = #[.ref ag, .int 2, .ref ah, .int 2, .null] ∧ Z.Warmed39 U.vm ∧ U.heap = h0) (fun _ _ _ _ _ => True) (fun _ U o U' => ∃ v L, o = .returned v ∧ Q_rm_ml Z ag ah h0 n0 v U'.heap L ∧ FrameEnd U o U' L ({ frames := 2, cells := 1, slots := 4, locals := 25 } : Room).cells ({ frames := 2, cells := 1, slots := 4, locals := 25 } : Room).slots) := by
 refine MetFree.of_bodySF (plainFor_of_name own_pn1) hisR ?_
 intro p e s m args below meth c s₁ Bd hml0 hP hK
 obtain ⟨rfl, hZ, hh⟩ := hP
 have hx := Bd.exec
 have hby := Bd.bytes
 have hml : c.maxLocals = 5 := hml0
 have hown : s.vm.findClass "java/math/BigInteger" = some m.cls := findClass_of_methodNamed Bd.named
 have hnm := (name_of_methodNamed Bd.named Bd.method).1
 have X0 : Stand p l e ({ frames := 2, cells := 1, slots := 4, locals := 25 } : Room) s m #[.ref ag, .int 2, .ref ah, .int 2, .null] below meth c s₁ [] 0 0 := Stand.of_body Bd
 have e0 : s₁.heap = h0 := by rw [← hh, Bd.state]; rfl
 have N0 := Fr.nil n0
 obtain ⟨B0, hB0⟩ : ∃ B, B = (s₁.setTop (entryFrame m #[.ref ag, .int 2, .ref ah, .int 2, .null] 5)) := ⟨_, rfl⟩
 have st0 : own_K p e below s₁ m 0 #[rv ag, iv 2, rv ah, iv 2, .val .null] [] B0 := fun t kk0 => hB0 ▸ castTop (own_ef18_RIRIN m ag (2 : Int32) ah (2 : Int32)) kk0
 have k0 : Keep h0 h0 [] := Keep.refl _ _
 have st1 : own_K p e below s₁ m 2 #[rv ag, iv 2, rv ah, iv 2, .val .null] [.int 2, .ref ag] B0 := fun t kt => st0 t (by
  refine XS.aloadN X0.here hx rfl (hb hby d18_0) rfl rfl ?_
  refine XS.iloadN X0.here hx rfl (hb hby d18_1) rfl ?_
  exact kt)
 obtain ⟨_, _, ⟨T2, L2, k2, n2⟩, -, X2, ⟨Lc2, hQ2, l2, y2, z2⟩, ls2⟩ := Jvm.LawKit.callS X0 hx (y := (⟨"java/math/BigInteger", "multiplyToLenCheck", "([II)V"⟩ : MethodName)) hown (mvT hZ (own_w hw 98 rfl)) (mvT hZ (own_w hw 99 rfl)) (mvT hZ (own_w hw 63 rfl)) (mvT hZ (own_w hw 100 rfl)) (by decide) (backOf (W := 0) (rm_ck l Z a0 hw [] ag ((fun q => .int (if q = 0 then 2147483647 else -1))) h0 n0 Z0 Ag) hZ (own_w hw 100 rfl) (own_w hw 63 rfl) (by decide) (by decide)) (g := (mkF m 2 #[rv ag, iv 2, rv ah, iv 2, .val .null] [.int 2, .ref ag])) rfl (by rw [hml]; rfl) (argsL := [.ref ag, .int 2]) (rest := []) (lenOf own_pd2 rfl) rfl (by show 2 * 0 + _ ≤ _; exact Nat.le_of_eq rfl) (hb hby d18_2) (fun _ _ => ⟨rfl, e0, (by decide : 0 + 0 ≤ _), (by decide : 0 + 0 ≤ _)⟩)
 dsimp only [Pt.U, Pt.locs, Pt.cells, Pt.slots] at X2 l2 y2 z2 ls2 hQ2
 subst l2 y2 z2
 obtain ⟨rfl, Nq2, eq2⟩ := hQ2
 have N2 := Fr.app N0 Nq2
 have st3 := fun t kt => st1 t (ls2 t kt)
 have st4 : own_K p e below T2 m 7 #[rv ag, iv 2, rv ah, iv 2, .val .null] [.int 2, .ref ah] B0 := fun t kt => st3 t (by
  refine XS.aloadN X2.here hx rfl (hb hby d18_5) rfl rfl ?_
  refine XS.iloadN X2.here hx rfl (hb hby d18_6) rfl ?_
  exact kt)
 obtain ⟨_, _, ⟨T5, L5, k5, n5⟩, -, X5, ⟨Lc5, hQ5, l5, y5, z5⟩, ls5⟩ := Jvm.LawKit.callS X2 hx (y := (⟨"java/math/BigInteger", "multiplyToLenCheck", "([II)V"⟩ : MethodName)) hown (mvT hZ (own_w hw 98 rfl)) (mvT hZ (own_w hw 99 rfl)) (mvT hZ (own_w hw 63 rfl)) (mvT hZ (own_w hw 100 rfl)) (by decide) (backOf (W := 0) (rm_ck l Z a0 hw [] ah ((fun q => .int (if q = 0 then 2147483647 else -1))) h0 n0 Z0 Ah) hZ (own_w hw 100 rfl) (own_w hw 63 rfl) (by decide) (by decide)) (g := (mkF m 7 #[rv ag, iv 2, rv ah, iv 2, .val .null] [.int 2, .ref ah])) rfl (by rw [hml]; rfl) (argsL := [.ref ah, .int 2]) (rest := []) (lenOf own_pd2 rfl) rfl (by show 2 * 0 + _ ≤ _; exact Nat.le_of_eq rfl) (hb hby d18_7) (fun _ _ => ⟨rfl, eq2, (by decide : 0 + 0 ≤ _), (by decide : 0 + 0 ≤ _)⟩)
 dsimp only [Pt.U, Pt.locs, Pt.cells, Pt.slots] at X5 l5 y5 z5 ls5 hQ5
 subst l5 y5 z5
 obtain ⟨rfl, Nq5, eq5⟩ := hQ5
 have N5 := Fr.app N2 Nq5
 have st6 := fun t kt => st4 t (ls5 t kt)
 have st7 : own_K p e below T5 m 16 #[rv ag, iv 2, rv ah, iv 2, .val .null] [.null, .int 2, .ref ah, .int 2, .ref ag] B0 := fun t kt => st6 t (by
  refine XS.aloadN X5.here hx rfl (hb hby d18_10) rfl rfl ?_
  refine XS.iloadN X5.here hx rfl (hb hby d18_11) rfl ?_
  refine XS.aloadN X5.here hx rfl (hb hby d18_12) rfl rfl ?_
  refine XS.iloadN X5.here hx rfl (hb hby d18_13) rfl ?_
  refine XS.aload X5.here hx rfl (hb hby d18_14) rfl rfl ?_
  exact kt)
 obtain ⟨_, _, ⟨T8, L8, k8, n8⟩, -, X8, ⟨Lc8, hQ8, l8, y8, z8⟩, ls8⟩ := Jvm.LawKit.callS X5 hx (y := (⟨"java/math/BigInteger", "implMultiplyToLen", "([II[II[I)[I"⟩ : MethodName)) hown (mvT hZ (own_w hw 105 rfl)) (mvT hZ (own_w hw 106 rfl)) (mvT hZ (own_w hw 63 rfl)) (mvT hZ (own_w hw 107 rfl)) (by decide) (backOf (W := 0) (rm_im l Z a0 hw [] ag ah h0 n0 Z0 Ag Ah) hZ (own_w hw 107 rfl) (own_w hw 63 rfl) (by decide) (by decide)) (g := (mkF m 16 #[rv ag, iv 2, rv ah, iv 2, .val .null] [.null, .int 2, .ref ah, .int 2, .ref ag])) rfl (by rw [hml]; rfl) (argsL := [.ref ag, .int 2, .ref ah, .int 2, .null]) (rest := []) (lenOf own_pd3 rfl) rfl (by show 2 * 0 + _ ≤ _; exact Nat.le_of_eq rfl) (hb hby d18_16) (fun _ _ => ⟨rfl, eq5, (by decide : 0 + 1 ≤ _), (by decide : 0 + 4 ≤ _)⟩)
 dsimp only [Pt.U, Pt.locs, Pt.cells, Pt.slots] at X8 l8 y8 z8 ls8 hQ8
 subst l8 y8 z8
 obtain ⟨rq8, rfl, Nq8, Kq8, gq8, Aq8⟩ := hQ8
 have N8 := Fr.app N5 Nq8
 have z11 := Nat.le_trans Z0 Kq8.1
 have k12 := Keep.trans k0 Kq8 all0
 have st13 := fun t kt => st7 t (ls8 t kt)
 have g_rq8 := gq8
 obtain ⟨fs, hr, hrun, hended, hW, hsame⟩ := X8.leave (v := (some (.ref rq8))) (fun h => by rw [Bd.returns] at h; cases h)
 subst hB0
 refine ⟨_, _, st13 _ ?_, hrun, hended, _, _, rfl, ?_, ⟨_, rfl⟩, hW, hsame.mono (by decide) (by decide)⟩
 ·exact retOut X8 hx Bd.returns rfl (Or.inr (Or.inr (Or.inr (Or.inr ⟨rfl, rfl, rfl⟩)))) (hb hby d18_19) hr
 ·show Q_rm_ml Z ag ah h0 n0 _ T8.heap _
  skip
  exact ⟨_, rfl, N8, k12, gq8, Aq8⟩
def Q_rm_ij (Z : State) (ao : Addr) (ua : Int64) (h0 : Heap) (n0 : Nat) (v : Option Value) (h : Heap) (L : List Loc) : Prop := v = none ∧ Fr n0 L ∧ Keep h0 h [ao] ∧ Fld Z h ao "java/math/BigInteger" "signum" "I" (.int (own_sg ua)) ∧ ∃ mg, n0 ≤ mg ∧ Fld Z h ao "java/math/BigInteger" "mag" "[I" (.ref mg) ∧ own_Av Z h mg .int (own_n ua) (fun q => .int (own_f ua q))
set_option maxRecDepth 65536 in
set_option maxHeartbeats 40000000 in
theorem rm_ij (l : Launch) (Z : State) (a0 : Array Value) (hw : ∀ d ∈ tables_1, d.before a0 Z = true) (ws : List Jvm.Cond) (ao : Addr) (ua : Int64) (h0 : Heap) (n0 : Nat) (Z0 : n0 ≤ h0.size) (E_ao : Exa Z h0 ao "java/math/BigInteger") (g_ao : n0 ≤ ao) (F_signum_ao : Fld Z h0 ao "java/math/BigInteger" "signum" "I" (.int 0)) (F_mag_ao : Fld Z h0 ao "java/math/BigInteger" "mag" "[I" .null) (hnz : ¬ ua = 0) :
  MetFree l (⟨"java/math/BigInteger", "<init>", "(J)V"⟩ : MethodName) (head1 (Jvm.Cond.code (⟨"java/math/BigInteger", "<init>", "(J)V"⟩ : MethodName) jdk_2097_method_30_code 4 none :: ws) ({ frames := 2, cells := 1, slots := 2, locals := 24 } : Room)) (fun a U => a = #[.ref ao, .long ua] ∧ Z.Warmed39 U.vm ∧ U.heap = h0) (fun _ _ _ _ _ => True) (fun _ U o U' => ∃ v L, o = .returned v ∧ Q_rm_ij Z ao ua h0 n0 v U'.heap L ∧ FrameEnd U o U' L ({ frames := 2, cells := 1, slots := 2, locals := 24 } : Room).cells ({ frames := 2, cells := 1, slots := 2, locals := 24 } : Room).slots) := by
 refine MetFree.of_bodySF (plainFor_of_name own_pn1) hisR ?_
 intro p e s m args below meth c s₁ Bd hml0 hP hK
 obtain ⟨rfl, hZ, hh⟩ := hP
 have hx := Bd.exec
 have hby := Bd.bytes
 have hml : c.maxLocals = 4 := hml0
 have hown : s.vm.findClass "java/math/BigInteger" = some m.cls := findClass_of_methodNamed Bd.named
 have hnm := (name_of_methodNamed Bd.named Bd.method).1
 have X0 : Stand p l e ({ frames := 2, cells := 1, slots := 2, locals := 24 } : Room) s m #[.ref ao, .long ua] below meth c s₁ [] 0 0 := Stand.of_body Bd
 have e0 : s₁.heap = h0 := by rw [← hh, Bd.state]; rfl
 have N0 := Fr.nil n0
 obtain ⟨B0, hB0⟩ : ∃ B, B = (s₁.setTop (entryFrame m #[.ref ao, .long ua] 4)) := ⟨_, rfl⟩
 have st0 : own_K p e below s₁ m 0 #[rv ao, .val (.long ua), .second, .unset] [] B0 := fun t kk0 => hB0 ▸ castTop (own_ef14_RJ m ao ua) kk0
 have k0 : Keep h0 h0 [ao] := Keep.refl _ _
 have st1 : own_K p e below s₁ m 1 #[rv ao, .val (.long ua), .second, .unset] [.ref ao] B0 := fun t kt => st0 t (by
  refine XS.aloadN X0.here hx rfl (hb hby d14_0) rfl rfl ?_
  exact kt)
 obtain ⟨_, _, ⟨T2, L2, k2, n2⟩, -, X2, ⟨Lc2, hQ2, l2, y2, z2⟩, ls2⟩ := X0.specialBack hx (y := (⟨"java/lang/Number", "<init>", "()V"⟩ : MethodName)) rfl hown (mvT hZ (own_w hw 73 rfl)) (mvT hZ (own_w hw 74 rfl)) (mvT hZ (own_w hw 78 rfl)) (by decide) (backOf (W := 0) (rm_number l Z a0 hw [] ao h0 n0 Z0) hZ (own_w hw 78 rfl) (own_w hw 77 rfl) (by decide) (by decide)) (g := (mkF m 1 #[rv ao, .val (.long ua), .second, .unset] [.ref ao])) rfl (by rw [hml]; rfl) (Steps.refl _) (a := ao) (argsL := []) (rest := []) (lenOf own_pd0 rfl) rfl (by show 2 * 0 + _ ≤ _; exact Nat.le_of_eq rfl) (hb hby d14_1) (fun _ _ => ⟨rfl, e0, (by decide : 0 + 0 ≤ _), (by decide : 0 + 0 ≤ _)⟩)
 dsimp only [Pt.U, Pt.locs, Pt.cells, Pt.slots] at X2 l2 y2 z2 ls2 hQ2
 subst l2 y2 z2
 obtain ⟨rfl, Nq2, eq2⟩ := hQ2
 have N2 := Fr.app N0 Nq2
 have st3 : own_K p e below T2 m 4 #[rv ao, .val (.long ua), .second, .unset] [] B0 := fun t kt => st1 t (ls2.trans kt)
 have st4 : own_K p e below T2 m 7 #[rv ao, .val (.long ua), .second, .unset] [(.int (lcmpW ua (0 : Int64)))] B0 := fun t kt => st3 t (by
  refine XS.lloadN X2.here hx rfl (hb hby d14_4) rfl ?_
  refine XS.lconst X2.here hx rfl (hb hby d14_5) ?_
  refine XS.lcmp X2.here hx rfl (hb hby d14_6) rfl ?_
  exact kt)
 by_cases q1 : ua < (0 : Int64)
 ·have st5 : own_K p e below T2 m 15 #[rv ao, .val (.long (own_ab ua)), .second, .unset] [.int (-1 : Int32), .ref ao] B0 := fun t kt => st4 t (by
   refine XS.ifNo X2.here hx rfl (hb hby d14_7) rfl ((if0 _ _).trans (tlt ((lw_lt _ _).mpr q1)).2.1) ?_
   refine XS.lloadN X2.here hx rfl (hb hby d14_10) rfl ?_
   refine XS.lneg X2.here hx rfl (hb hby d14_11) rfl ?_
   refine XS.lstoreN X2.here hx rfl (hb hby d14_12) rfl (l' := #[rv ao, .val (.long (-ua)), .second, .unset]) rfl ?_
   show own_At p e below T2 m 13 #[rv ao, .val (.long (-ua)), .second, .unset] [] _
   rw [show (-ua) = (own_ab ua) from (by unfold own_ab; rw [if_pos q1])]
   refine XS.aloadN X2.here hx rfl (hb hby d14_13) rfl rfl ?_
   refine XS.iconst X2.here hx rfl (hb hby d14_14) ?_
   exact kt)
  obtain ⟨T6, h6, X6, e6, W6, ls6⟩ := putF X2 hx hZ hown (host := "") (Or.inl (own_w hw 80 rfl)) Via.refl eq2 F_signum_ao E_ao (Or.inr ⟨(own_w hw 81 rfl), rfl, hnm⟩) (own_w hw 68 rfl) (ty := .int) (by decide) rfl rfl (g := (mkF m 15 #[rv ao, .val (.long (own_ab ua)), .second, .unset] [.int (-1 : Int32), .ref ao])) rfl rfl (hb hby d14_15)
  have N6 := Fr.snoc X6 N2 g_ao
  have f7 := E_ao.wr W6
  have f8 := F_signum_ao.same W6
  have f9 := F_mag_ao.other W6 (Or.inr (own_s84_81 hw))
  have z10 := Nat.le_trans Z0 (Keep.of_wr W6).1
  have k11 := k0.wr W6 (Or.inl (List.mem_of_getElem? (i := 0) rfl))
  have st12 := fun t kt => st5 t (ls6 t kt)
  have st13 : own_K p e below T6 m 33 #[rv ao, .val (.long (own_ab ua)), .second, iv (own_hi ua)] [.int (own_hi ua)] B0 := fun t kt => st12 t (by
   refine XS.goto X6.here hx rfl (pc0 := 18) (pc' := 26) rfl (hb hby d14_18) (by decide) (by decide) ?_
   refine XS.lloadN X6.here hx rfl (hb hby d14_26) rfl ?_
   refine XS.bipush X6.here hx rfl (hb hby d14_27) ?_
   refine XS.lushr X6.here hx rfl (hb hby d14_29) rfl ?_
   refine XS.l2i X6.here hx rfl (hb hby d14_30) rfl ?_
   show own_At p e below T6 m 31 #[rv ao, .val (.long (own_ab ua)), .second, .unset] [(.int ((((own_ab ua).toUInt64 >>> ((32 : Int32) &&& 0x3f).toInt64.toUInt64).toInt64).toInt32))] _
   rw [show ((((own_ab ua).toUInt64 >>> ((32 : Int32) &&& 0x3f).toInt64.toUInt64).toInt64).toInt32) = (own_hi ua) from (rfl)]
   refine XS.istoreN X6.here hx rfl (hb hby d14_31) rfl (l' := #[rv ao, .val (.long (own_ab ua)), .second, iv (own_hi ua)]) rfl ?_
   refine XS.iloadN X6.here hx rfl (hb hby d14_32) rfl ?_
   exact kt)
  by_cases q2 : (own_hi ua) = (0 : Int32)
  ·have st14 : own_K p e below T6 m 38 #[rv ao, .val (.long (own_ab ua)), .second, iv (own_hi ua)] [.int 1, .ref ao] B0 := fun t kt => st13 t (by
    refine XS.ifNo X6.here hx rfl (hb hby d14_33) rfl ((if0 _ _).trans (teq q2).2) ?_
    refine XS.aloadN X6.here hx rfl (hb hby d14_36) rfl rfl ?_
    refine XS.iconst X6.here hx rfl (hb hby d14_37) ?_
    exact kt)
   obtain ⟨T15, h15, c15, X15, e15, E15, A15, ls15⟩ := newP X6 hx hZ (own_w hw 82 rfl) e6 (g := (mkF m 38 #[rv ao, .val (.long (own_ab ua)), .second, iv (own_hi ua)] [.int 1, .ref ao])) rfl (hb hby d14_38) rfl (by decide) (cap := 1) (by decide) (by decide) (by decide) (by decide)
   obtain ⟨mg, g15⟩ : ∃ z, z = h6.size := ⟨_, rfl⟩
   rw [← g15] at A15 ls15
   have ne_ao_mg : ao ≠ mg := Nat.ne_of_lt (Nat.lt_of_lt_of_le f7.lt (Nat.le_of_eq g15.symm))
   have g_mg : n0 ≤ mg := Nat.le_trans z10 (Nat.le_of_eq g15.symm)
   have sz_mg : h0.size ≤ mg := Nat.le_trans k11.1 (Nat.le_of_eq g15.symm)
   have f16 := f7.ext E15
   have f17 := f8.ext E15
   have f18 := f9.ext E15
   have z19 := Nat.le_trans z10 E15.1
   have k20 := k11.ext E15
   have f21 : own_Av Z h15 mg .int 1 (fun _ => (.int 0)) := own_Av.new A15 (by decide) (by decide)
   have st22 := fun t kt => st14 t (ls15 t kt)
   obtain ⟨T23, h23, X23, e23, W23, ls23⟩ := putF X15 hx hZ hown (host := "") (Or.inl (own_w hw 83 rfl)) Via.refl e15 f18 f16 (Or.inr ⟨(own_w hw 84 rfl), rfl, hnm⟩) (own_w hw 68 rfl) (ty := (.array .int)) (by decide) rfl rfl (g := (mkF m 40 #[rv ao, .val (.long (own_ab ua)), .second, iv (own_hi ua)] [.ref mg, .ref ao])) rfl rfl (hb hby d14_40)
   have N23 := Fr.snoc X23 N6 g_ao
   have f25 := f17.other W23 (Or.inr (own_s81_84 hw))
   have f26 := f18.same W23
   have f27 := f21.other W23 (Ne.symm ne_ao_mg)
   have z28 := Nat.le_trans z19 (Keep.of_wr W23).1
   have k29 := k20.wr W23 (Or.inl (List.mem_of_getElem? (i := 0) rfl))
   have st30 := fun t kt => st22 t (ls23 t kt)
   have st31 : own_K p e below T23 m 44 #[rv ao, .val (.long (own_ab ua)), .second, iv (own_hi ua)] [.ref ao] B0 := fun t kt => st30 t (by
    refine XS.aloadN X23.here hx rfl (hb hby d14_43) rfl rfl ?_
    exact kt)
   obtain ⟨T32, X32, e32, ls32⟩ := getF X23 hx hZ hown (host := "") (Or.inl (own_w hw 83 rfl)) Via.refl e23 f26 (g := (mkF m 44 #[rv ao, .val (.long (own_ab ua)), .second, iv (own_hi ua)] [.ref ao])) rfl rfl (hb hby d14_44)
   have st33 := fun t kt => st31 t (ls32 t kt)
   have st34 : own_K p e below T32 m 50 #[rv ao, .val (.long (own_ab ua)), .second, iv (own_hi ua)] [(.int ((own_ab ua).toInt32)), .int 0, .ref mg] B0 := fun t kt => st33 t (by
    refine XS.iconst X32.here hx rfl (hb hby d14_47) ?_
    refine XS.lloadN X32.here hx rfl (hb hby d14_48) rfl ?_
    refine XS.l2i X32.here hx rfl (hb hby d14_49) rfl ?_
    exact kt)
   obtain ⟨T35, h35, X35, e35, W35, B35, ls35⟩ := own_iastore X32 hx hZ e32 f27 (j := (0 : Int32)) (i := 0) (by decide) (by decide) (by decide) (g := (mkF m 50 #[rv ao, .val (.long (own_ab ua)), .second, iv (own_hi ua)] [(.int ((own_ab ua).toInt32)), .int 0, .ref mg])) rfl rfl (hb hby d14_50)
   have N35 := Fr.snoc X35 N23 g_mg
   have f37 := f25.other W35 (Or.inl ne_ao_mg)
   have f38 := f26.other W35 (Or.inl ne_ao_mg)
   have z39 := Nat.le_trans z28 (Keep.of_wr W35).1
   have k40 := k29.wr W35 (Or.inr sz_mg)
   have f41 := B35.congr (g := (fun q => .int (own_f ua q))) (fun q hq => by
    have z : q = 0 := by omega
    subst z
    show _ = Value.int (own_f ua 0)
    unfold own_f
    rw [if_pos q2]
    rfl)
   have st42 := fun t kt => st34 t (ls35 t kt)
   have st43 : own_K p e below T35 m 76 #[rv ao, .val (.long (own_ab ua)), .second, iv (own_hi ua)] [] B0 := fun t kt => st42 t (by
    refine XS.goto X35.here hx rfl (pc0 := 51) (pc' := 76) rfl (hb hby d14_51) (by decide) (by decide) ?_
    exact kt)
   obtain ⟨fs, hr, hrun, hended, hW, hsame⟩ := X35.leave (v := none) (fun _ => rfl)
   subst hB0
   refine ⟨_, _, st43 _ ?_, hrun, hended, _, _, rfl, ?_, ⟨_, rfl⟩, hW, hsame.mono (by decide) (by decide)⟩
   ·exact X35.returnOut hx Bd.returns (hb hby d14_76) hr
   ·show Q_rm_ij Z ao ua h0 n0 _ T35.heap _
    rw [e35]
    exact ⟨rfl, N35, k40, by unfold own_sg; rw [if_neg hnz, if_pos q1]; exact f37, _, g_mg, f38, by rw [own_n_one hnz q2]; exact f41⟩
  ·have st44 : own_K p e below T6 m 56 #[rv ao, .val (.long (own_ab ua)), .second, iv (own_hi ua)] [.int 2, .ref ao] B0 := fun t kt => st13 t (by
    refine XS.ifYes X6.here hx rfl (pc0 := 33) (pc' := 54) rfl (hb hby d14_33) rfl ((if0 _ _).trans (feq q2).2) (by decide) (by decide) ?_
    refine XS.aloadN X6.here hx rfl (hb hby d14_54) rfl rfl ?_
    refine XS.iconst X6.here hx rfl (hb hby d14_55) ?_
    exact kt)
   obtain ⟨T45, h45, c45, X45, e45, E45, A45, ls45⟩ := newP X6 hx hZ (own_w hw 82 rfl) e6 (g := (mkF m 56 #[rv ao, .val (.long (own_ab ua)), .second, iv (own_hi ua)] [.int 2, .ref ao])) rfl (hb hby d14_56) rfl (by decide) (cap := 2) (by decide) (by decide) (by decide) (by decide)
   obtain ⟨mg, g45⟩ : ∃ z, z = h6.size := ⟨_, rfl⟩
   rw [← g45] at A45 ls45
   have ne_ao_mg : ao ≠ mg := Nat.ne_of_lt (Nat.lt_of_lt_of_le f7.lt (Nat.le_of_eq g45.symm))
   have g_mg : n0 ≤ mg := Nat.le_trans z10 (Nat.le_of_eq g45.symm)
   have sz_mg : h0.size ≤ mg := Nat.le_trans k11.1 (Nat.le_of_eq g45.symm)
   have f46 := f7.ext E45
   have f47 := f8.ext E45
   have f48 := f9.ext E45
   have z49 := Nat.le_trans z10 E45.1
   have k50 := k11.ext E45
   have f51 : own_Av Z h45 mg .int 2 (fun _ => (.int 0)) := own_Av.new A45 (by decide) (by decide)
   have st52 := fun t kt => st44 t (ls45 t kt)
   obtain ⟨T53, h53, X53, e53, W53, ls53⟩ := putF X45 hx hZ hown (host := "") (Or.inl (own_w hw 83 rfl)) Via.refl e45 f48 f46 (Or.inr ⟨(own_w hw 84 rfl), rfl, hnm⟩) (own_w hw 68 rfl) (ty := (.array .int)) (by decide) rfl rfl (g := (mkF m 58 #[rv ao, .val (.long (own_ab ua)), .second, iv (own_hi ua)] [.ref mg, .ref ao])) rfl rfl (hb hby d14_58)
   have N53 := Fr.snoc X53 N6 g_ao
   have f55 := f47.other W53 (Or.inr (own_s81_84 hw))
   have f56 := f48.same W53
   have f57 := f51.other W53 (Ne.symm ne_ao_mg)
   have z58 := Nat.le_trans z49 (Keep.of_wr W53).1
   have k59 := k50.wr W53 (Or.inl (List.mem_of_getElem? (i := 0) rfl))
   have st60 := fun t kt => st52 t (ls53 t kt)
   have st61 : own_K p e below T53 m 62 #[rv ao, .val (.long (own_ab ua)), .second, iv (own_hi ua)] [.ref ao] B0 := fun t kt => st60 t (by
    refine XS.aloadN X53.here hx rfl (hb hby d14_61) rfl rfl ?_
    exact kt)
   obtain ⟨T62, X62, e62, ls62⟩ := getF X53 hx hZ hown (host := "") (Or.inl (own_w hw 83 rfl)) Via.refl e53 f56 (g := (mkF m 62 #[rv ao, .val (.long (own_ab ua)), .second, iv (own_hi ua)] [.ref ao])) rfl rfl (hb hby d14_62)
   have st63 := fun t kt => st61 t (ls62 t kt)
   have st64 : own_K p e below T62 m 67 #[rv ao, .val (.long (own_ab ua)), .second, iv (own_hi ua)] [.int (own_hi ua), .int 0, .ref mg] B0 := fun t kt => st63 t (by
    refine XS.iconst X62.here hx rfl (hb hby d14_65) ?_
    refine XS.iloadN X62.here hx rfl (hb hby d14_66) rfl ?_
    exact kt)
   obtain ⟨T65, h65, X65, e65, W65, B65, ls65⟩ := own_iastore X62 hx hZ e62 f57 (j := (0 : Int32)) (i := 0) (by decide) (by decide) (by decide) (g := (mkF m 67 #[rv ao, .val (.long (own_ab ua)), .second, iv (own_hi ua)] [.int (own_hi ua), .int 0, .ref mg])) rfl rfl (hb hby d14_67)
   have N65 := Fr.snoc X65 N53 g_mg
   have f67 := f55.other W65 (Or.inl ne_ao_mg)
   have f68 := f56.other W65 (Or.inl ne_ao_mg)
   have z69 := Nat.le_trans z58 (Keep.of_wr W65).1
   have k70 := k59.wr W65 (Or.inr sz_mg)
   have f71 := B65
   have st72 := fun t kt => st64 t (ls65 t kt)
   have st73 : own_K p e below T65 m 69 #[rv ao, .val (.long (own_ab ua)), .second, iv (own_hi ua)] [.ref ao] B0 := fun t kt => st72 t (by
    refine XS.aloadN X65.here hx rfl (hb hby d14_68) rfl rfl ?_
    exact kt)
   obtain ⟨T74, X74, e74, ls74⟩ := getF X65 hx hZ hown (host := "") (Or.inl (own_w hw 83 rfl)) Via.refl e65 f68 (g := (mkF m 69 #[rv ao, .val (.long (own_ab ua)), .second, iv (own_hi ua)] [.ref ao])) rfl rfl (hb hby d14_69)
   have st75 := fun t kt => st73 t (ls74 t kt)
   have st76 : own_K p e below T74 m 75 #[rv ao, .val (.long (own_ab ua)), .second, iv (own_hi ua)] [(.int ((own_ab ua).toInt32)), .int 1, .ref mg] B0 := fun t kt => st75 t (by
    refine XS.iconst X74.here hx rfl (hb hby d14_72) ?_
    refine XS.lloadN X74.here hx rfl (hb hby d14_73) rfl ?_
    refine XS.l2i X74.here hx rfl (hb hby d14_74) rfl ?_
    exact kt)
   obtain ⟨T77, h77, X77, e77, W77, B77, ls77⟩ := own_iastore X74 hx hZ e74 f71 (j := (1 : Int32)) (i := 1) (by decide) (by decide) (by decide) (g := (mkF m 75 #[rv ao, .val (.long (own_ab ua)), .second, iv (own_hi ua)] [(.int ((own_ab ua).toInt32)), .int 1, .ref mg])) rfl rfl (hb hby d14_75)
   have N77 := Fr.snoc X77 N65 g_mg
   have f79 := f67.other W77 (Or.inl ne_ao_mg)
   have f80 := f68.other W77 (Or.inl ne_ao_mg)
   have z81 := Nat.le_trans z69 (Keep.of_wr W77).1
   have k82 := k70.wr W77 (Or.inr sz_mg)
   have f83 := B77.congr (g := (fun q => .int (own_f ua q))) (fun q hq => by
    have z : q = 0 ∨ q = 1 := by omega
    unfold own_f
    rw [if_neg q2]
    rcases z with rfl | rfl <;> rfl)
   have st84 := fun t kt => st76 t (ls77 t kt)
   obtain ⟨fs, hr, hrun, hended, hW, hsame⟩ := X77.leave (v := none) (fun _ => rfl)
   subst hB0
   refine ⟨_, _, st84 _ ?_, hrun, hended, _, _, rfl, ?_, ⟨_, rfl⟩, hW, hsame.mono (by decide) (by decide)⟩
   ·exact X77.returnOut hx Bd.returns (hb hby d14_76) hr
   ·show Q_rm_ij Z ao ua h0 n0 _ T77.heap _
    rw [e77]
    exact ⟨rfl, N77, k82, by unfold own_sg; rw [if_neg hnz, if_pos q1]; exact f79, _, g_mg, f80, by rw [own_n_two hnz q2]; exact f83⟩
 ·have st85 : own_K p e below T2 m 23 #[rv ao, .val (.long (own_ab ua)), .second, .unset] [.int 1, .ref ao] B0 := fun t kt => st4 t (by
   refine XS.ifYes X2.here hx rfl (pc0 := 7) (pc' := 21) rfl (hb hby d14_7) rfl ((if0 _ _).trans (flt (fun q => q1 ((lw_lt _ _).mp q))).2.1) (by decide) (by decide) ?_
   show own_At p e below T2 m 21 #[rv ao, .val (.long ua), .second, .unset] [] _
   rw [show ua = (own_ab ua) from (by unfold own_ab; rw [if_neg q1])]
   refine XS.aloadN X2.here hx rfl (hb hby d14_21) rfl rfl ?_
   refine XS.iconst X2.here hx rfl (hb hby d14_22) ?_
   exact kt)
  obtain ⟨T86, h86, X86, e86, W86, ls86⟩ := putF X2 hx hZ hown (host := "") (Or.inl (own_w hw 80 rfl)) Via.refl eq2 F_signum_ao E_ao (Or.inr ⟨(own_w hw 81 rfl), rfl, hnm⟩) (own_w hw 68 rfl) (ty := .int) (by decide) rfl rfl (g := (mkF m 23 #[rv ao, .val (.long (own_ab ua)), .second, .unset] [.int 1, .ref ao])) rfl rfl (hb hby d14_23)
  have N86 := Fr.snoc X86 N2 g_ao
  have f87 := E_ao.wr W86
  have f88 := F_signum_ao.same W86
  have f89 := F_mag_ao.other W86 (Or.inr (own_s84_81 hw))
  have z90 := Nat.le_trans Z0 (Keep.of_wr W86).1
  have k91 := k0.wr W86 (Or.inl (List.mem_of_getElem? (i := 0) rfl))
  have st92 := fun t kt => st85 t (ls86 t kt)
  have st93 : own_K p e below T86 m 33 #[rv ao, .val (.long (own_ab ua)), .second, iv (own_hi ua)] [.int (own_hi ua)] B0 := fun t kt => st92 t (by
   refine XS.lloadN X86.here hx rfl (hb hby d14_26) rfl ?_
   refine XS.bipush X86.here hx rfl (hb hby d14_27) ?_
   refine XS.lushr X86.here hx rfl (hb hby d14_29) rfl ?_
   refine XS.l2i X86.here hx rfl (hb hby d14_30) rfl ?_
   show own_At p e below T86 m 31 #[rv ao, .val (.long (own_ab ua)), .second, .unset] [(.int ((((own_ab ua).toUInt64 >>> ((32 : Int32) &&& 0x3f).toInt64.toUInt64).toInt64).toInt32))] _
   rw [show ((((own_ab ua).toUInt64 >>> ((32 : Int32) &&& 0x3f).toInt64.toUInt64).toInt64).toInt32) = (own_hi ua) from (rfl)]
   refine XS.istoreN X86.here hx rfl (hb hby d14_31) rfl (l' := #[rv ao, .val (.long (own_ab ua)), .second, iv (own_hi ua)]) rfl ?_
   refine XS.iloadN X86.here hx rfl (hb hby d14_32) rfl ?_
   exact kt)
  by_cases q2 : (own_hi ua) = (0 : Int32)
  ·have st94 : own_K p e below T86 m 38 #[rv ao, .val (.long (own_ab ua)), .second, iv (own_hi ua)] [.int 1, .ref ao] B0 := fun t kt => st93 t (by
    refine XS.ifNo X86.here hx rfl (hb hby d14_33) rfl ((if0 _ _).trans (teq q2).2) ?_
    refine XS.aloadN X86.here hx rfl (hb hby d14_36) rfl rfl ?_
    refine XS.iconst X86.here hx rfl (hb hby d14_37) ?_
    exact kt)
   obtain ⟨T95, h95, c95, X95, e95, E95, A95, ls95⟩ := newP X86 hx hZ (own_w hw 82 rfl) e86 (g := (mkF m 38 #[rv ao, .val (.long (own_ab ua)), .second, iv (own_hi ua)] [.int 1, .ref ao])) rfl (hb hby d14_38) rfl (by decide) (cap := 1) (by decide) (by decide) (by decide) (by decide)
   obtain ⟨mg, g95⟩ : ∃ z, z = h86.size := ⟨_, rfl⟩
   rw [← g95] at A95 ls95
   have ne_ao_mg : ao ≠ mg := Nat.ne_of_lt (Nat.lt_of_lt_of_le f87.lt (Nat.le_of_eq g95.symm))
   have g_mg : n0 ≤ mg := Nat.le_trans z90 (Nat.le_of_eq g95.symm)
   have sz_mg : h0.size ≤ mg := Nat.le_trans k91.1 (Nat.le_of_eq g95.symm)
   have f96 := f87.ext E95
   have f97 := f88.ext E95
   have f98 := f89.ext E95
   have z99 := Nat.le_trans z90 E95.1
   have k100 := k91.ext E95
   have f101 : own_Av Z h95 mg .int 1 (fun _ => (.int 0)) := own_Av.new A95 (by decide) (by decide)
   have st102 := fun t kt => st94 t (ls95 t kt)
   obtain ⟨T103, h103, X103, e103, W103, ls103⟩ := putF X95 hx hZ hown (host := "") (Or.inl (own_w hw 83 rfl)) Via.refl e95 f98 f96 (Or.inr ⟨(own_w hw 84 rfl), rfl, hnm⟩) (own_w hw 68 rfl) (ty := (.array .int)) (by decide) rfl rfl (g := (mkF m 40 #[rv ao, .val (.long (own_ab ua)), .second, iv (own_hi ua)] [.ref mg, .ref ao])) rfl rfl (hb hby d14_40)
   have N103 := Fr.snoc X103 N86 g_ao
   have f105 := f97.other W103 (Or.inr (own_s81_84 hw))
   have f106 := f98.same W103
   have f107 := f101.other W103 (Ne.symm ne_ao_mg)
   have z108 := Nat.le_trans z99 (Keep.of_wr W103).1
   have k109 := k100.wr W103 (Or.inl (List.mem_of_getElem? (i := 0) rfl))
   have st110 := fun t kt => st102 t (ls103 t kt)
   have st111 : own_K p e below T103 m 44 #[rv ao, .val (.long (own_ab ua)), .second, iv (own_hi ua)] [.ref ao] B0 := fun t kt => st110 t (by
    refine XS.aloadN X103.here hx rfl (hb hby d14_43) rfl rfl ?_
    exact kt)
   obtain ⟨T112, X112, e112, ls112⟩ := getF X103 hx hZ hown (host := "") (Or.inl (own_w hw 83 rfl)) Via.refl e103 f106 (g := (mkF m 44 #[rv ao, .val (.long (own_ab ua)), .second, iv (own_hi ua)] [.ref ao])) rfl rfl (hb hby d14_44)
   have st113 := fun t kt => st111 t (ls112 t kt)
   have st114 : own_K p e below T112 m 50 #[rv ao, .val (.long (own_ab ua)), .second, iv (own_hi ua)] [(.int ((own_ab ua).toInt32)), .int 0, .ref mg] B0 := fun t kt => st113 t (by
    refine XS.iconst X112.here hx rfl (hb hby d14_47) ?_
    refine XS.lloadN X112.here hx rfl (hb hby d14_48) rfl ?_
    refine XS.l2i X112.here hx rfl (hb hby d14_49) rfl ?_
    exact kt)
   obtain ⟨T115, h115, X115, e115, W115, B115, ls115⟩ := own_iastore X112 hx hZ e112 f107 (j := (0 : Int32)) (i := 0) (by decide) (by decide) (by decide) (g := (mkF m 50 #[rv ao, .val (.long (own_ab ua)), .second, iv (own_hi ua)] [(.int ((own_ab ua).toInt32)), .int 0, .ref mg])) rfl rfl (hb hby d14_50)
   have N115 := Fr.snoc X115 N103 g_mg
   have f117 := f105.other W115 (Or.inl ne_ao_mg)
   have f118 := f106.other W115 (Or.inl ne_ao_mg)
   have z119 := Nat.le_trans z108 (Keep.of_wr W115).1
   have k120 := k109.wr W115 (Or.inr sz_mg)
   have f121 := B115.congr (g := (fun q => .int (own_f ua q))) (fun q hq => by
    have z : q = 0 := by omega
    subst z
    show _ = Value.int (own_f ua 0)
    unfold own_f
    rw [if_pos q2]
    rfl)
   have st122 := fun t kt => st114 t (ls115 t kt)
   have st123 : own_K p e below T115 m 76 #[rv ao, .val (.long (own_ab ua)), .second, iv (own_hi ua)] [] B0 := fun t kt => st122 t (by
    refine XS.goto X115.here hx rfl (pc0 := 51) (pc' := 76) rfl (hb hby d14_51) (by decide) (by decide) ?_
    exact kt)
   obtain ⟨fs, hr, hrun, hended, hW, hsame⟩ := X115.leave (v := none) (fun _ => rfl)
   subst hB0
   refine ⟨_, _, st123 _ ?_, hrun, hended, _, _, rfl, ?_, ⟨_, rfl⟩, hW, hsame.mono (by decide) (by decide)⟩
   ·exact X115.returnOut hx Bd.returns (hb hby d14_76) hr
   ·show Q_rm_ij Z ao ua h0 n0 _ T115.heap _
    rw [e115]
    exact ⟨rfl, N115, k120, by unfold own_sg; rw [if_neg hnz, if_neg q1]; exact f117, _, g_mg, f118, by rw [own_n_one hnz q2]; exact f121⟩
  ·have st124 : own_K p e below T86 m 56 #[rv ao, .val (.long (own_ab ua)), .second, iv (own_hi ua)] [.int 2, .ref ao] B0 := fun t kt => st93 t (by
    refine XS.ifYes X86.here hx rfl (pc0 := 33) (pc' := 54) rfl (hb hby d14_33) rfl ((if0 _ _).trans (feq q2).2) (by decide) (by decide) ?_
    refine XS.aloadN X86.here hx rfl (hb hby d14_54) rfl rfl ?_
    refine XS.iconst X86.here hx rfl (hb hby d14_55) ?_
    exact kt)
   obtain ⟨T125, h125, c125, X125, e125, E125, A125, ls125⟩ := newP X86 hx hZ (own_w hw 82 rfl) e86 (g := (mkF m 56 #[rv ao, .val (.long (own_ab ua)), .second, iv (own_hi ua)] [.int 2, .ref ao])) rfl (hb hby d14_56) rfl (by decide) (cap := 2) (by decide) (by decide) (by decide) (by decide)
   obtain ⟨mg, g125⟩ : ∃ z, z = h86.size := ⟨_, rfl⟩
   rw [← g125] at A125 ls125
   have ne_ao_mg : ao ≠ mg := Nat.ne_of_lt (Nat.lt_of_lt_of_le f87.lt (Nat.le_of_eq g125.symm))
   have g_mg : n0 ≤ mg := Nat.le_trans z90 (Nat.le_of_eq g125.symm)
   have sz_mg : h0.size ≤ mg := Nat.le_trans k91.1 (Nat.le_of_eq g125.symm)
   have f126 := f87.ext E125
   have f127 := f88.ext E125
   have f128 := f89.ext E125
   have z129 := Nat.le_trans z90 E125.1
   have k130 := k91.ext E125
   have f131 : own_Av Z h125 mg .int 2 (fun _ => (.int 0)) := own_Av.new A125 (by decide) (by decide)
   have st132 := fun t kt => st124 t (ls125 t kt)
   obtain ⟨T133, h133, X133, e133, W133, ls133⟩ := putF X125 hx hZ hown (host := "") (Or.inl (own_w hw 83 rfl)) Via.refl e125 f128 f126 (Or.inr ⟨(own_w hw 84 rfl), rfl, hnm⟩) (own_w hw 68 rfl) (ty := (.array .int)) (by decide) rfl rfl (g := (mkF m 58 #[rv ao, .val (.long (own_ab ua)), .second, iv (own_hi ua)] [.ref mg, .ref ao])) rfl rfl (hb hby d14_58)
   have N133 := Fr.snoc X133 N86 g_ao
   have f135 := f127.other W133 (Or.inr (own_s81_84 hw))
   have f136 := f128.same W133
   have f137 := f131.other W133 (Ne.symm ne_ao_mg)
   have z138 := Nat.le_trans z129 (Keep.of_wr W133).1
   have k139 := k130.wr W133 (Or.inl (List.mem_of_getElem? (i := 0) rfl))
   have st140 := fun t kt => st132 t (ls133 t kt)
   have st141 : own_K p e below T133 m 62 #[rv ao, .val (.long (own_ab ua)), .second, iv (own_hi ua)] [.ref ao] B0 := fun t kt => st140 t (by
    refine XS.aloadN X133.here hx rfl (hb hby d14_61) rfl rfl ?_
    exact kt)
   obtain ⟨T142, X142, e142, ls142⟩ := getF X133 hx hZ hown (host := "") (Or.inl (own_w hw 83 rfl)) Via.refl e133 f136 (g := (mkF m 62 #[rv ao, .val (.long (own_ab ua)), .second, iv (own_hi ua)] [.ref ao])) rfl rfl (hb hby d14_62)
   have st143 := fun t kt => st141 t (ls142 t kt)
   have st144 : own_K p e below T142 m 67 #[rv ao, .val (.long (own_ab ua)), .second, iv (own_hi ua)] [.int (own_hi ua), .int 0, .ref mg] B0 := fun t kt => st143 t (by
    refine XS.iconst X142.here hx rfl (hb hby d14_65) ?_
    refine XS.iloadN X142.here hx rfl (hb hby d14_66) rfl ?_
    exact kt)
   obtain ⟨T145, h145, X145, e145, W145, B145, ls145⟩ := own_iastore X142 hx hZ e142 f137 (j := (0 : Int32)) (i := 0) (by decide) (by decide) (by decide) (g := (mkF m 67 #[rv ao, .val (.long (own_ab ua)), .second, iv (own_hi ua)] [.int (own_hi ua), .int 0, .ref mg])) rfl rfl (hb hby d14_67)
   have N145 := Fr.snoc X145 N133 g_mg
   have f147 := f135.other W145 (Or.inl ne_ao_mg)
   have f148 := f136.other W145 (Or.inl ne_ao_mg)
   have z149 := Nat.le_trans z138 (Keep.of_wr W145).1
   have k150 := k139.wr W145 (Or.inr sz_mg)
   have f151 := B145
   have st152 := fun t kt => st144 t (ls145 t kt)
   have st153 : own_K p e below T145 m 69 #[rv ao, .val (.long (own_ab ua)), .second, iv (own_hi ua)] [.ref ao] B0 := fun t kt => st152 t (by
    refine XS.aloadN X145.here hx rfl (hb hby d14_68) rfl rfl ?_
    exact kt)
   obtain ⟨T154, X154, e154, ls154⟩ := getF X145 hx hZ hown (host := "") (Or.inl (own_w hw 83 rfl)) Via.refl e145 f148 (g := (mkF m 69 #[rv ao, .val (.long (own_ab ua)), .second, iv (own_hi ua)] [.ref ao])) rfl rfl (hb hby d14_69)
   have st155 := fun t kt => st153 t (ls154 t kt)
   have st156 : own_K p e below T154 m 75 #[rv ao, .val (.long (own_ab ua)), .second, iv (own_hi ua)] [(.int ((own_ab ua).toInt32)), .int 1, .ref mg] B0 := fun t kt => st155 t (by
    refine XS.iconst X154.here hx rfl (hb hby d14_72) ?_
    refine XS.lloadN X154.here hx rfl (hb hby d14_73) rfl ?_
    refine XS.l2i X154.here hx rfl (hb hby d14_74) rfl ?_
    exact kt)
   obtain ⟨T157, h157, X157, e157, W157, B157, ls157⟩ := own_iastore X154 hx hZ e154 f151 (j := (1 : Int32)) (i := 1) (by decide) (by decide) (by decide) (g := (mkF m 75 #[rv ao, .val (.long (own_ab ua)), .second, iv (own_hi ua)] [(.int ((own_ab ua).toInt32)), .int 1, .ref mg])) rfl rfl (hb hby d14_75)
   have N157 := Fr.snoc X157 N145 g_mg
   have f159 := f147.other W157 (Or.inl ne_ao_mg)
   have f160 := f148.other W157 (Or.inl ne_ao_mg)
   have z161 := Nat.le_trans z149 (Keep.of_wr W157).1
   have k162 := k150.wr W157 (Or.inr sz_mg)
   have f163 := B157.congr (g := (fun q => .int (own_f ua q))) (fun q hq => by
    have z : q = 0 ∨ q = 1 := by omega
    unfold own_f
    rw [if_neg q2]
    rcases z with rfl | rfl <;> rfl)
   have st164 := fun t kt => st156 t (ls157 t kt)
   obtain ⟨fs, hr, hrun, hended, hW, hsame⟩ := X157.leave (v := none) (fun _ => rfl)
   subst hB0
   refine ⟨_, _, st164 _ ?_, hrun, hended, _, _, rfl, ?_, ⟨_, rfl⟩, hW, hsame.mono (by decide) (by decide)⟩
   ·exact X157.returnOut hx Bd.returns (hb hby d14_76) hr
   ·show Q_rm_ij Z ao ua h0 n0 _ T157.heap _
    rw [e157]
    exact ⟨rfl, N157, k162, by unfold own_sg; rw [if_neg hnz, if_neg q1]; exact f159, _, g_mg, f160, by rw [own_n_two hnz q2]; exact f163⟩
def Q_rm_m4 (Z : State) (bx : Addr) (bv : Addr) (mx : Addr) (mv : Addr) (h0 : Heap) (n0 : Nat) (v : Option Value) (h : Heap) (L : List Loc) : Prop := ∃ bq mq, v = some (.ref bq) ∧ Fr n0 L ∧ Keep h0 h [] ∧ own_BI Z h bq mq 1 4 (own_w4 1073741823 (-1) 0 1) ∧ n0 ≤ bq ∧ n0 ≤ mq
set_option maxRecDepth 65536 in
set_option maxHeartbeats 40000000 in
theorem rm_m4 (l : Launch) (Z : State) (a0 : Array Value) (hw : ∀ d ∈ tables_1, d.before a0 Z = true) (ws : List Jvm.Cond) (bx : Addr) (bv : Addr) (mx : Addr) (mv : Addr) (h0 : Heap) (n0 : Nat) (Z0 : n0 ≤ h0.size) (E_bx : Exa Z h0 bx "java/math/BigInteger") (F_signum_bx : Fld Z h0 bx "java/math/BigInteger" "signum" "I" (.int 1)) (F_mag_bx : Fld Z h0 bx "java/math/BigInteger" "mag" "[I" (.ref mx)) (A_mx : own_Av Z h0 mx .int 2 (fun q => .int (if q = 0 then 2147483647 else -1))) (E_bv : Exa Z h0 bv "java/math/BigInteger") (F_signum_bv : Fld Z h0 bv "java/math/BigInteger" "signum" "I" (.int 1)) (F_mag_bv : Fld Z h0 bv "java/math/BigInteger" "mag" "[I" (.ref mv)) (A_mv : own_Av Z h0 mv .int 2 (fun q => .int (if q = 0 then 2147483647 else -1))) (ne_bx_bv : bx ≠ bv) :
  MetFree l (⟨"java/math/BigInteger", "multiply", "(Ljava/math/BigInteger;ZZI)Ljava/math/BigInteger;"⟩ : MethodName) (head1 (Jvm.Cond.code (⟨"java/math/BigInteger", "multiply", "(Ljava/math/BigInteger;ZZI)Ljava/math/BigInteger;"⟩ : MethodName) jdk_2097_method_42_code 9 (some (.object "java/math/BigInteger")) :: ws) ({ frames := 3, cells := 2, slots := 10, locals := 41 } : Room)) (fun a U => a = #[.ref bx, .ref bv, .int 0, .int 0, .int 0] ∧ Z.Warmed39 U.vm ∧ U.heap = h0) (fun _ _ _ _ _ => True) (fun _ U o U' => ∃ v L, o = .returned v ∧ Q_rm_m4 Z bx bv mx mv h0 n0 v U'.heap L ∧ FrameEnd U o U' L ({ frames := 3, cells := 2, slots := 10, locals := 41 } : Room).cells ({ frames := 3, cells := 2, slots := 10, locals := 41 } : Room).slots) := by
 refine MetFree.of_bodySF (plainFor_of_name own_pn1) hisR ?_
 intro p e s m args below meth c s₁ Bd hml0 hP hK
 obtain ⟨rfl, hZ, hh⟩ := hP
 have hx := Bd.exec
 have hby := Bd.bytes
 have hml : c.maxLocals = 9 := hml0
 have hown : s.vm.findClass "java/math/BigInteger" = some m.cls := findClass_of_methodNamed Bd.named
 have hnm := (name_of_methodNamed Bd.named Bd.method).1
 have X0 : Stand p l e ({ frames := 3, cells := 2, slots := 10, locals := 41 } : Room) s m #[.ref bx, .ref bv, .int 0, .int 0, .int 0] below meth c s₁ [] 0 0 := Stand.of_body Bd
 have e0 : s₁.heap = h0 := by rw [← hh, Bd.state]; rfl
 have N0 := Fr.nil n0
 obtain ⟨B0, hB0⟩ : ∃ B, B = (s₁.setTop (entryFrame m #[.ref bx, .ref bv, .int 0, .int 0, .int 0] 9)) := ⟨_, rfl⟩
 have st0 : own_K p e below s₁ m 0 #[rv bx, rv bv, iv 0, iv 0, iv 0, .unset, .unset, .unset, .unset] [] B0 := fun t kk0 => hB0 ▸ castTop (own_ef17_RRIII m bx bv (0 : Int32) (0 : Int32) (0 : Int32)) kk0
 have k0 : Keep h0 h0 [] := Keep.refl _ _
 have st1 : own_K p e below s₁ m 1 #[rv bx, rv bv, iv 0, iv 0, iv 0, .unset, .unset, .unset, .unset] [.ref bv] B0 := fun t kt => st0 t (by
  refine XS.aloadN X0.here hx rfl (hb hby d17_0) rfl rfl ?_
  exact kt)
 obtain ⟨T2, X2, e2, ls2⟩ := getF X0 hx hZ hown (host := "") (Or.inl (own_w hw 80 rfl)) Via.refl e0 F_signum_bv (g := (mkF m 1 #[rv bx, rv bv, iv 0, iv 0, iv 0, .unset, .unset, .unset, .unset] [.ref bv])) rfl rfl (hb hby d17_1)
 have st3 := fun t kt => st1 t (ls2 t kt)
 have hc4 : ¬ ((1 : Int32) = (0 : Int32)) := by decide
 have st5 : own_K p e below T2 m 8 #[rv bx, rv bv, iv 0, iv 0, iv 0, .unset, .unset, .unset, .unset] [.ref bx] B0 := fun t kt => st3 t (by
  refine XS.ifNo X2.here hx rfl (hb hby d17_4) rfl ((if0 _ _).trans (feq hc4).1) ?_
  refine XS.aloadN X2.here hx rfl (hb hby d17_7) rfl rfl ?_
  exact kt)
 obtain ⟨T6, X6, e6, ls6⟩ := getF X2 hx hZ hown (host := "") (Or.inl (own_w hw 80 rfl)) Via.refl e2 F_signum_bx (g := (mkF m 8 #[rv bx, rv bv, iv 0, iv 0, iv 0, .unset, .unset, .unset, .unset] [.ref bx])) rfl rfl (hb hby d17_8)
 have st7 := fun t kt => st5 t (ls6 t kt)
 have hc8 : ¬ ((1 : Int32) = (0 : Int32)) := by decide
 have st9 : own_K p e below T6 m 19 #[rv bx, rv bv, iv 0, iv 0, iv 0, .unset, .unset, .unset, .unset] [.ref bx] B0 := fun t kt => st7 t (by
  refine XS.ifYes X6.here hx rfl (pc0 := 11) (pc' := 18) rfl (hb hby d17_11) rfl ((if0 _ _).trans (feq hc8).2) (by decide) (by decide) ?_
  refine XS.aloadN X6.here hx rfl (hb hby d17_18) rfl rfl ?_
  exact kt)
 obtain ⟨T10, X10, e10, ls10⟩ := getF X6 hx hZ hown (host := "") (Or.inl (own_w hw 83 rfl)) Via.refl e6 F_mag_bx (g := (mkF m 19 #[rv bx, rv bv, iv 0, iv 0, iv 0, .unset, .unset, .unset, .unset] [.ref bx])) rfl rfl (hb hby d17_19)
 have st11 := fun t kt => st9 t (ls10 t kt)
 have ls12 := own_alen X10 hx hZ e10 A_mx (g := (mkF m 22 #[rv bx, rv bv, iv 0, iv 0, iv 0, .unset, .unset, .unset, .unset] [.ref mx])) rfl rfl (hb hby d17_22)
 have st13 := fun t kt => st11 t (ls12 t kt)
 have st14 : own_K p e below T10 m 47 #[rv bx, rv bv, iv 0, iv 0, iv 0, iv 2, .unset, .unset, .unset] [.ref bv] B0 := fun t kt => st13 t (by
  refine XS.istore X10.here hx rfl (hb hby d17_23) rfl (l' := #[rv bx, rv bv, iv 0, iv 0, iv 0, iv 2, .unset, .unset, .unset]) rfl ?_
  refine XS.aloadN X10.here hx rfl (hb hby d17_25) rfl rfl ?_
  refine XS.aloadN X10.here hx rfl (hb hby d17_26) rfl rfl ?_
  show own_At p e below T10 m 27 #[rv bx, rv bv, iv 0, iv 0, iv 0, iv 2, .unset, .unset, .unset] [.ref bx, .ref bv] _
  refine Jvm.RoadKit.acmp (g := (mkF m 27 #[rv bx, rv bv, iv 0, iv 0, iv 0, iv 2, .unset, .unset, .unset] [.ref bx, .ref bv])) X10 hx rfl rfl rfl (pc0 := 27) (pc' := 46) (same := false) rfl (hb hby d17_27) rfl (by simpa using (Ne.symm ne_bx_bv)) (by decide) (by decide) ?_
  refine XS.aloadN X10.here hx rfl (hb hby d17_46) rfl rfl ?_
  exact kt)
 obtain ⟨T15, X15, e15, ls15⟩ := getF X10 hx hZ hown (host := "") (Or.inl (own_w hw 83 rfl)) Via.refl e10 F_mag_bv (g := (mkF m 47 #[rv bx, rv bv, iv 0, iv 0, iv 0, iv 2, .unset, .unset, .unset] [.ref bv])) rfl rfl (hb hby d17_47)
 have st16 := fun t kt => st14 t (ls15 t kt)
 have ls17 := own_alen X15 hx hZ e15 A_mv (g := (mkF m 50 #[rv bx, rv bv, iv 0, iv 0, iv 0, iv 2, .unset, .unset, .unset] [.ref mv])) rfl rfl (hb hby d17_50)
 have st18 := fun t kt => st16 t (ls17 t kt)
 have hc19 : (2 : Int32) < (80 : Int32) := by decide
 have st20 : own_K p e below T15 m 68 #[rv bx, rv bv, iv 0, iv 0, iv 0, iv 2, iv 2, .unset, .unset] [.ref bx] B0 := fun t kt => st18 t (by
  refine XS.istore X15.here hx rfl (hb hby d17_51) rfl (l' := #[rv bx, rv bv, iv 0, iv 0, iv 0, iv 2, iv 2, .unset, .unset]) rfl ?_
  refine XS.iload X15.here hx rfl (hb hby d17_53) rfl ?_
  refine XS.bipush X15.here hx rfl (hb hby d17_55) ?_
  refine XS.icmpYes X15.here hx rfl (pc0 := 57) (pc' := 67) rfl (hb hby d17_57) rfl (tlt hc19).1 (by decide) (by decide) ?_
  refine XS.aloadN X15.here hx rfl (hb hby d17_67) rfl rfl ?_
  exact kt)
 obtain ⟨T21, X21, e21, ls21⟩ := getF X15 hx hZ hown (host := "") (Or.inl (own_w hw 80 rfl)) Via.refl e15 F_signum_bx (g := (mkF m 68 #[rv bx, rv bv, iv 0, iv 0, iv 0, iv 2, iv 2, .unset, .unset] [.ref bx])) rfl rfl (hb hby d17_68)
 have st22 := fun t kt => st20 t (ls21 t kt)
 have st23 : own_K p e below T21 m 72 #[rv bx, rv bv, iv 0, iv 0, iv 0, iv 2, iv 2, .unset, .unset] [.ref bv, .int 1] B0 := fun t kt => st22 t (by
  refine XS.aloadN X21.here hx rfl (hb hby d17_71) rfl rfl ?_
  exact kt)
 obtain ⟨T24, X24, e24, ls24⟩ := getF X21 hx hZ hown (host := "") (Or.inl (own_w hw 80 rfl)) Via.refl e21 F_signum_bv (g := (mkF m 72 #[rv bx, rv bv, iv 0, iv 0, iv 0, iv 2, iv 2, .unset, .unset] [.ref bv, .int 1])) rfl rfl (hb hby d17_72)
 have st25 := fun t kt => st23 t (ls24 t kt)
 have hc26 : (1 : Int32) = (1 : Int32) := rfl
 have st27 : own_K p e below T24 m 86 #[rv bx, rv bv, iv 0, iv 0, iv 0, iv 2, iv 2, iv 1, .unset] [.ref bv] B0 := fun t kt => st25 t (by
  refine XS.icmpNo X24.here hx rfl (hb hby d17_75) rfl (teq hc26).2 ?_
  refine XS.iconst X24.here hx rfl (hb hby d17_78) ?_
  refine XS.goto X24.here hx rfl (pc0 := 79) (pc' := 83) rfl (hb hby d17_79) (by decide) (by decide) ?_
  refine XS.istore X24.here hx rfl (hb hby d17_83) rfl (l' := #[rv bx, rv bv, iv 0, iv 0, iv 0, iv 2, iv 2, iv 1, .unset]) rfl ?_
  refine XS.aloadN X24.here hx rfl (hb hby d17_85) rfl rfl ?_
  exact kt)
 obtain ⟨T28, X28, e28, ls28⟩ := getF X24 hx hZ hown (host := "") (Or.inl (own_w hw 83 rfl)) Via.refl e24 F_mag_bv (g := (mkF m 86 #[rv bx, rv bv, iv 0, iv 0, iv 0, iv 2, iv 2, iv 1, .unset] [.ref bv])) rfl rfl (hb hby d17_86)
 have st29 := fun t kt => st27 t (ls28 t kt)
 have ls30 := own_alen X28 hx hZ e28 A_mv (g := (mkF m 89 #[rv bx, rv bv, iv 0, iv 0, iv 0, iv 2, iv 2, iv 1, .unset] [.ref mv])) rfl rfl (hb hby d17_89)
 have st31 := fun t kt => st29 t (ls30 t kt)
 have hc32 : ¬ ((2 : Int32) = (1 : Int32)) := by decide
 have st33 : own_K p e below T28 m 111 #[rv bx, rv bv, iv 0, iv 0, iv 0, iv 2, iv 2, iv 1, .unset] [.ref bx] B0 := fun t kt => st31 t (by
  refine XS.iconst X28.here hx rfl (hb hby d17_90) ?_
  refine XS.icmpYes X28.here hx rfl (pc0 := 91) (pc' := 110) rfl (hb hby d17_91) rfl (feq hc32).2 (by decide) (by decide) ?_
  refine XS.aloadN X28.here hx rfl (hb hby d17_110) rfl rfl ?_
  exact kt)
 obtain ⟨T34, X34, e34, ls34⟩ := getF X28 hx hZ hown (host := "") (Or.inl (own_w hw 83 rfl)) Via.refl e28 F_mag_bx (g := (mkF m 111 #[rv bx, rv bv, iv 0, iv 0, iv 0, iv 2, iv 2, iv 1, .unset] [.ref bx])) rfl rfl (hb hby d17_111)
 have st35 := fun t kt => st33 t (ls34 t kt)
 have ls36 := own_alen X34 hx hZ e34 A_mx (g := (mkF m 114 #[rv bx, rv bv, iv 0, iv 0, iv 0, iv 2, iv 2, iv 1, .unset] [.ref mx])) rfl rfl (hb hby d17_114)
 have st37 := fun t kt => st35 t (ls36 t kt)
 have hc38 : ¬ ((2 : Int32) = (1 : Int32)) := by decide
 have st39 : own_K p e below T34 m 136 #[rv bx, rv bv, iv 0, iv 0, iv 0, iv 2, iv 2, iv 1, .unset] [.ref bx] B0 := fun t kt => st37 t (by
  refine XS.iconst X34.here hx rfl (hb hby d17_115) ?_
  refine XS.icmpYes X34.here hx rfl (pc0 := 116) (pc' := 135) rfl (hb hby d17_116) rfl (feq hc38).2 (by decide) (by decide) ?_
  refine XS.aloadN X34.here hx rfl (hb hby d17_135) rfl rfl ?_
  exact kt)
 obtain ⟨T40, X40, e40, ls40⟩ := getF X34 hx hZ hown (host := "") (Or.inl (own_w hw 83 rfl)) Via.refl e34 F_mag_bx (g := (mkF m 136 #[rv bx, rv bv, iv 0, iv 0, iv 0, iv 2, iv 2, iv 1, .unset] [.ref bx])) rfl rfl (hb hby d17_136)
 have st41 := fun t kt => st39 t (ls40 t kt)
 have st42 : own_K p e below T40 m 142 #[rv bx, rv bv, iv 0, iv 0, iv 0, iv 2, iv 2, iv 1, .unset] [.ref bv, .int 2, .ref mx] B0 := fun t kt => st41 t (by
  refine XS.iload X40.here hx rfl (hb hby d17_139) rfl ?_
  refine XS.aloadN X40.here hx rfl (hb hby d17_141) rfl rfl ?_
  exact kt)
 obtain ⟨T43, X43, e43, ls43⟩ := getF X40 hx hZ hown (host := "") (Or.inl (own_w hw 83 rfl)) Via.refl e40 F_mag_bv (g := (mkF m 142 #[rv bx, rv bv, iv 0, iv 0, iv 0, iv 2, iv 2, iv 1, .unset] [.ref bv, .int 2, .ref mx])) rfl rfl (hb hby d17_142)
 have st44 := fun t kt => st42 t (ls43 t kt)
 have st45 : own_K p e below T43 m 148 #[rv bx, rv bv, iv 0, iv 0, iv 0, iv 2, iv 2, iv 1, .unset] [.null, .int 2, .ref mv, .int 2, .ref mx] B0 := fun t kt => st44 t (by
  refine XS.iload X43.here hx rfl (hb hby d17_145) rfl ?_
  refine XS.aconstNull X43.here hx rfl (hb hby d17_147) ?_
  exact kt)
 obtain ⟨_, _, ⟨T46, L46, k46, n46⟩, -, X46, ⟨Lc46, hQ46, l46, y46, z46⟩, ls46⟩ := Jvm.LawKit.callS X43 hx (y := (⟨"java/math/BigInteger", "multiplyToLen", "([II[II[I)[I"⟩ : MethodName)) hown (mvT hZ (own_w hw 95 rfl)) (mvT hZ (own_w hw 96 rfl)) (mvT hZ (own_w hw 63 rfl)) (mvT hZ (own_w hw 97 rfl)) (by decide) (backOf (W := 0) (rm_ml l Z a0 hw [] mx mv h0 n0 Z0 A_mx A_mv) hZ (own_w hw 97 rfl) (own_w hw 63 rfl) (by decide) (by decide)) (g := (mkF m 148 #[rv bx, rv bv, iv 0, iv 0, iv 0, iv 2, iv 2, iv 1, .unset] [.null, .int 2, .ref mv, .int 2, .ref mx])) rfl (by rw [hml]; rfl) (argsL := [.ref mx, .int 2, .ref mv, .int 2, .null]) (rest := []) (lenOf own_pd3 rfl) rfl (by show 2 * 0 + _ ≤ _; exact Nat.le_of_eq rfl) (hb hby d17_148) (fun _ _ => ⟨rfl, e43, (by decide : 0 + 1 ≤ _), (by decide : 0 + 4 ≤ _)⟩)
 dsimp only [Pt.U, Pt.locs, Pt.cells, Pt.slots] at X46 l46 y46 z46 ls46 hQ46
 subst l46 y46 z46
 obtain ⟨rq46, rfl, Nq46, Kq46, gq46, Aq46⟩ := hQ46
 have N46 := Fr.app N0 Nq46
 have z55 := Nat.le_trans Z0 Kq46.1
 have k56 := Keep.trans k0 Kq46 all0
 have st57 := fun t kt => st45 t (ls46 t kt)
 have g_rq46 := gq46
 have st58 : own_K p e below T46 m 155 #[rv bx, rv bv, iv 0, iv 0, iv 0, iv 2, iv 2, iv 1, rv rq46] [.ref rq46] B0 := fun t kt => st57 t (by
  refine XS.astore X46.here hx rfl (hb hby d17_151) rfl rfl (l' := #[rv bx, rv bv, iv 0, iv 0, iv 0, iv 2, iv 2, iv 1, rv rq46]) rfl ?_
  refine XS.aload X46.here hx rfl (hb hby d17_153) rfl rfl ?_
  exact kt)
 obtain ⟨_, _, ⟨T59, L59, k59, n59⟩, -, X59, ⟨Lc59, hQ59, l59, y59, z59⟩, ls59⟩ := Jvm.LawKit.callS X46 hx (y := (⟨"java/math/BigInteger", "trustedStripLeadingZeroInts", "([I)[I"⟩ : MethodName)) hown (mvT hZ (own_w hw 109 rfl)) (mvT hZ (own_w hw 110 rfl)) (mvT hZ (own_w hw 63 rfl)) (mvT hZ (own_w hw 111 rfl)) (by decide) (backOf (W := 0) (rm_ts l Z a0 hw [] rq46 ((own_w4 1073741823 (-1) 0 1)) T46.heap n0 z55 Aq46 (by decide)) hZ (own_w hw 111 rfl) (own_w hw 63 rfl) (by decide) (by decide)) (g := (mkF m 155 #[rv bx, rv bv, iv 0, iv 0, iv 0, iv 2, iv 2, iv 1, rv rq46] [.ref rq46])) rfl (by rw [hml]; rfl) (argsL := [.ref rq46]) (rest := []) (lenOf own_pd4 rfl) rfl (by show 2 * 0 + _ ≤ _; exact Nat.le_of_eq rfl) (hb hby d17_155) (fun _ _ => ⟨rfl, rfl, (by decide : 1 + 0 ≤ _), (by decide : 4 + 0 ≤ _)⟩)
 dsimp only [Pt.U, Pt.locs, Pt.cells, Pt.slots] at X59 l59 y59 z59 ls59 hQ59
 subst l59 y59 z59
 obtain ⟨rfl, Nq59, eq59⟩ := hQ59
 have N59 := Fr.app N46 Nq59
 have st60 := fun t kt => st58 t (ls59 t kt)
 have st61 : own_K p e below T59 m 160 #[rv bx, rv bv, iv 0, iv 0, iv 0, iv 2, iv 2, iv 1, rv rq46] [] B0 := fun t kt => st60 t (by
  refine XS.astore X59.here hx rfl (hb hby d17_158) rfl rfl (l' := #[rv bx, rv bv, iv 0, iv 0, iv 0, iv 2, iv 2, iv 1, rv rq46]) rfl ?_
  exact kt)
 obtain ⟨T62, h62, X62, e62, E62, A62, D62, -, ls62⟩ := newO X59 hx hZ hown (own_w hw 67 rfl) (own_w hw 68 rfl) (own_w hw 63 rfl) eq59 (g := (mkF m 160 #[rv bx, rv bv, iv 0, iv 0, iv 0, iv 2, iv 2, iv 1, rv rq46] [])) rfl (hb hby d17_160) (by decide) (by decide)
 obtain ⟨bn, g62⟩ : ∃ z, z = T46.heap.size := ⟨_, rfl⟩
 rw [← g62] at A62 D62 ls62
 have ne_rq46_bn : rq46 ≠ bn := Nat.ne_of_lt (Nat.lt_of_lt_of_le Aq46.lt (Nat.le_of_eq g62.symm))
 have g_bn : n0 ≤ bn := Nat.le_trans z55 (Nat.le_of_eq g62.symm)
 have sz_bn : h0.size ≤ bn := Nat.le_trans k56.1 (Nat.le_of_eq g62.symm)
 have f71 := Aq46.ext E62
 have z72 := Nat.le_trans z55 E62.1
 have k73 := k56.ext E62
 have f74 : Fld Z h62 bn "java/math/BigInteger" "signum" "I" (.int 0) := D62 (Or.inr (own_w hw 81 rfl)) (ty := .int) (by decide)
 have f75 : Fld Z h62 bn "java/math/BigInteger" "mag" "[I" .null := D62 (Or.inr (own_w hw 84 rfl)) (ty := (.array .int)) (by decide)
 have st76 := fun t kt => st61 t (ls62 t kt)
 have st77 : own_K p e below T62 m 168 #[rv bx, rv bv, iv 0, iv 0, iv 0, iv 2, iv 2, iv 1, rv rq46] [.int 1, .ref rq46, .ref bn, .ref bn] B0 := fun t kt => st76 t (by
  refine XS.dup X62.here hx rfl (hb hby d17_163) rfl rfl ?_
  refine XS.aload X62.here hx rfl (hb hby d17_164) rfl rfl ?_
  refine XS.iload X62.here hx rfl (hb hby d17_166) rfl ?_
  exact kt)
 obtain ⟨_, _, ⟨T78, L78, k78, n78⟩, -, X78, ⟨Lc78, hQ78, l78, y78, z78⟩, ls78⟩ := X62.specialBack hx (y := (⟨"java/math/BigInteger", "<init>", "([II)V"⟩ : MethodName)) rfl hown (mvT hZ (own_w hw 112 rfl)) (mvT hZ (own_w hw 113 rfl)) (mvT hZ (own_w hw 114 rfl)) (by decide) (backOf (W := 1) (rm_i4 l Z a0 hw [] bn rq46 ((1 : Int32)) ((fun q => .int ((own_w4 1073741823 (-1) 0 1) q))) h62 n0 z72 A62 g_bn f74 f75 f71 ((Ne.symm ne_rq46_bn))) hZ (own_w hw 114 rfl) (own_w hw 63 rfl) (by decide) (by decide)) (g := (mkF m 168 #[rv bx, rv bv, iv 0, iv 0, iv 0, iv 2, iv 2, iv 1, rv rq46] [.int 1, .ref rq46, .ref bn, .ref bn])) rfl (by rw [hml]; rfl) (Steps.refl _) (a := bn) (argsL := [.ref rq46, .int 1]) (rest := [.ref bn]) (lenOf own_pd2 rfl) rfl (by show 2 * 0 + _ ≤ _; exact Nat.le_of_eq rfl) (hb hby d17_168) (fun _ _ => ⟨rfl, e62, (by decide : 2 + 0 ≤ _), (by decide : 10 + 0 ≤ _)⟩)
 dsimp only [Pt.U, Pt.locs, Pt.cells, Pt.slots] at X78 l78 y78 z78 ls78 hQ78
 subst l78 y78 z78
 obtain ⟨rfl, Nq78, Kq78, Fq78_signum, Fq78_mag⟩ := hQ78
 have N78 := Fr.app N59 Nq78
 have f87 := f71.keep Kq78 (ninS ne_rq46_bn nin0)
 have f88 := A62.keep Kq78
 have z91 := Nat.le_trans z72 Kq78.1
 have k92 := Keep.trans k73 Kq78 (allS (P := fun x => x ∈ [] ∨ h0.size ≤ x) (Or.inr sz_bn) all0)
 have st93 : own_K p e below T78 m 171 #[rv bx, rv bv, iv 0, iv 0, iv 0, iv 2, iv 2, iv 1, rv rq46] [.ref bn] B0 := fun t kt => st77 t (ls78.trans kt)
 obtain ⟨fs, hr, hrun, hended, hW, hsame⟩ := X78.leave (v := (some (.ref bn))) (fun h => by rw [Bd.returns] at h; cases h)
 subst hB0
 refine ⟨_, _, st93 _ ?_, hrun, hended, _, _, rfl, ?_, ⟨_, rfl⟩, hW, hsame.mono (by decide) (by decide)⟩
 ·exact retOut X78 hx Bd.returns rfl (Or.inr (Or.inr (Or.inr (Or.inr ⟨rfl, rfl, rfl⟩)))) (hb hby d17_171) hr
 ·show Q_rm_m4 Z bx bv mx mv h0 n0 _ T78.heap _
  skip
  exact ⟨_, _, rfl, N78, k92, ⟨f88, Fq78_signum, Fq78_mag, f87⟩, g_bn, g_rq46⟩
def Q_rm_mu (Z : State) (bx : Addr) (bv : Addr) (mx : Addr) (mv : Addr) (h0 : Heap) (n0 : Nat) (v : Option Value) (h : Heap) (L : List Loc) : Prop := ∃ bq mq, v = some (.ref bq) ∧ Fr n0 L ∧ Keep h0 h [] ∧ own_BI Z h bq mq 1 4 (own_w4 1073741823 (-1) 0 1) ∧ n0 ≤ bq ∧ n0 ≤ mq
set_option maxRecDepth 65536 in
set_option maxHeartbeats 40000000 in
theorem rm_mu (l : Launch) (Z : State) (a0 : Array Value) (hw : ∀ d ∈ tables_1, d.before a0 Z = true) (ws : List Jvm.Cond) (bx : Addr) (bv : Addr) (mx : Addr) (mv : Addr) (h0 : Heap) (n0 : Nat) (Z0 : n0 ≤ h0.size) (E_bx : Exa Z h0 bx "java/math/BigInteger") (F_signum_bx : Fld Z h0 bx "java/math/BigInteger" "signum" "I" (.int 1)) (F_mag_bx : Fld Z h0 bx "java/math/BigInteger" "mag" "[I" (.ref mx)) (A_mx : own_Av Z h0 mx .int 2 (fun q => .int (if q = 0 then 2147483647 else -1))) (E_bv : Exa Z h0 bv "java/math/BigInteger") (F_signum_bv : Fld Z h0 bv "java/math/BigInteger" "signum" "I" (.int 1)) (F_mag_bv : Fld Z h0 bv "java/math/BigInteger" "mag" "[I" (.ref mv)) (A_mv : own_Av Z h0 mv .int 2 (fun q => .int (if q = 0 then 2147483647 else -1))) (ne_bx_bv : bx ≠ bv) :
  MetFree l (⟨"java/math/BigInteger", "multiply", "(Ljava/math/BigInteger;)Ljava/math/BigInteger;"⟩ : MethodName) (head1 (Jvm.Cond.code (⟨"java/math/BigInteger", "multiply", "(Ljava/math/BigInteger;)Ljava/math/BigInteger;"⟩ : MethodName) jdk_2097_method_40_code 2 (some (.object "java/math/BigInteger")) :: ws) ({ frames := 4, cells := 2, slots := 10, locals := 61 } : Room)) (fun a U => a = #[.ref bx, .ref bv] ∧ Z.Warmed39 U.vm ∧ U.heap = h0) (fun _ _ _ _ _ => True) (fun _ U o U' => ∃ v L, o = .returned v ∧ Q_rm_mu Z bx bv mx mv h0 n0 v U'.heap L ∧ FrameEnd U o U' L ({ frames := 4, cells := 2, slots := 10, locals := 61 } : Room).cells ({ frames := 4, cells := 2, slots := 10, locals := 61 } : Room).slots) := by
 refine MetFree.of_bodySF (plainFor_of_name own_pn1) hisR ?_
 intro p e s m args below meth c s₁ Bd hml0 hP hK
 obtain ⟨rfl, hZ, hh⟩ := hP
 have hx := Bd.exec
 have hby := Bd.bytes
 have hml : c.maxLocals = 2 := hml0
 have hown : s.vm.findClass "java/math/BigInteger" = some m.cls := findClass_of_methodNamed Bd.named
 have hnm := (name_of_methodNamed Bd.named Bd.method).1
 have X0 : Stand p l e ({ frames := 4, cells := 2, slots := 10, locals := 61 } : Room) s m #[.ref bx, .ref bv] below meth c s₁ [] 0 0 := Stand.of_body Bd
 have e0 : s₁.heap = h0 := by rw [← hh, Bd.state]; rfl
 have N0 := Fr.nil n0
 obtain ⟨B0, hB0⟩ : ∃ B, B = (s₁.setTop (entryFrame m #[.ref bx, .ref bv] 2)) := ⟨_, rfl⟩
 have st0 : own_K p e below s₁ m 0 #[rv bx, rv bv] [] B0 := fun t kk0 => hB0 ▸ castTop (own_ef16_RR m bx bv) kk0
 have k0 : Keep h0 h0 [] := Keep.refl _ _
 have st1 : own_K p e below s₁ m 5 #[rv bx, rv bv] [.int 0, .int 0, .int 0, .ref bv, .ref bx] B0 := fun t kt => st0 t (by
  refine XS.aloadN X0.here hx rfl (hb hby d16_0) rfl rfl ?_
  refine XS.aloadN X0.here hx rfl (hb hby d16_1) rfl rfl ?_
  refine XS.iconst X0.here hx rfl (hb hby d16_2) ?_
  refine XS.iconst X0.here hx rfl (hb hby d16_3) ?_
  refine XS.iconst X0.here hx rfl (hb hby d16_4) ?_
  exact kt)
 obtain ⟨cq2, q2, q2'⟩ := E_bx.cell
 obtain ⟨_, _, ⟨T2, L2, k2, n2⟩, -, X2, ⟨Lc2, hQ2, l2, y2, z2⟩, ls2⟩ := X0.privateBack hx (y := (⟨"java/math/BigInteger", "multiply", "(Ljava/math/BigInteger;ZZI)Ljava/math/BigInteger;"⟩ : MethodName)) hown (mvT hZ (own_w hw 90 rfl)) (mvT hZ (own_w hw 91 rfl)) (mvT hZ (own_w hw 93 rfl)) (Cond.privateMethod_at (mvP hZ (own_w hw 92 rfl) (args := #[]))) (mvT hZ (own_w hw 94 rfl)) (by decide) (backOf (W := 0) (rm_m4 l Z a0 hw [] bx bv mx mv h0 n0 Z0 E_bx F_signum_bx F_mag_bx A_mx E_bv F_signum_bv F_mag_bv A_mv ne_bx_bv) hZ (own_w hw 94 rfl) (own_w hw 63 rfl) (by decide) (by decide)) (g := (mkF m 5 #[rv bx, rv bv] [.int 0, .int 0, .int 0, .ref bv, .ref bx])) rfl (by rw [hml]; rfl) (Steps.refl _) (a := bx) (by rw [e0]; exact q2) q2' (argsL := [.ref bv, .int 0, .int 0, .int 0]) (rest := []) (lenOf own_pd5 rfl) rfl (by show 2 * 0 + _ ≤ _; exact Nat.le_of_eq rfl) (hb hby d16_5) (fun _ _ => ⟨rfl, e0, (by decide : 0 + 2 ≤ _), (by decide : 0 + 10 ≤ _)⟩)
 dsimp only [Pt.U, Pt.locs, Pt.cells, Pt.slots] at X2 l2 y2 z2 ls2 hQ2
 subst l2 y2 z2
 obtain ⟨bq2, mq2, rfl, Nq2, Kq2, Bq2, gb2, gm2⟩ := hQ2
 have N2 := Fr.app N0 Nq2
 have z11 := Nat.le_trans Z0 Kq2.1
 have k12 := Keep.trans k0 Kq2 all0
 have st13 : own_K p e below T2 m 8 #[rv bx, rv bv] [.ref bq2] B0 := fun t kt => st1 t (ls2.trans kt)
 obtain ⟨Ee2, Fs2, Fm2, Am2⟩ := Bq2
 obtain ⟨fs, hr, hrun, hended, hW, hsame⟩ := X2.leave (v := (some (.ref bq2))) (fun h => by rw [Bd.returns] at h; cases h)
 subst hB0
 refine ⟨_, _, st13 _ ?_, hrun, hended, _, _, rfl, ?_, ⟨_, rfl⟩, hW, hsame.mono (by decide) (by decide)⟩
 ·exact retOut X2 hx Bd.returns rfl (Or.inr (Or.inr (Or.inr (Or.inr ⟨rfl, rfl, rfl⟩)))) (hb hby d16_8) hr
 ·show Q_rm_mu Z bx bv mx mv h0 n0 _ T2.heap _
  skip
  exact ⟨_, _, rfl, N2, k12, ⟨Ee2, Fs2, Fm2, Am2⟩, gb2, gm2⟩
def Q_rm_ad1 (Z : State) (my : Addr) (mx : Addr) (f : Nat → Int32) (h0 : Heap) (n0 : Nat) (v : Option Value) (h : Heap) (L : List Loc) : Prop := ∃ rq, v = some (.ref rq) ∧ Fr n0 L ∧ Keep h0 h [] ∧ n0 ≤ rq ∧ h0.size ≤ rq ∧ own_Av Z h rq .int 4 (fun q => .int (own_ad1 f q))
set_option maxRecDepth 65536 in
set_option maxHeartbeats 40000000 in
theorem rm_ad1 (l : Launch) (Z : State) (a0 : Array Value) (hw : ∀ d ∈ tables_1, d.before a0 Z = true) (ws : List Jvm.Cond) (my : Addr) (mx : Addr) (f : Nat → Int32) (h0 : Heap) (n0 : Nat) (Z0 : n0 ≤ h0.size) (Ay : own_Av Z h0 my .int 1 (fun q => .int (f q))) (Ax : own_Av Z h0 mx .int 4 (fun q => .int ((own_w4 1073741823 (-1) 0 1) q))) :
  MetFree l (⟨"java/math/BigInteger", "add", "([I[I)[I"⟩ : MethodName) (head1 (Jvm.Cond.code (⟨"java/math/BigInteger", "add", "([I[I)[I"⟩ : MethodName) jdk_2097_method_35_code 9 (some (.array .int)) :: ws) ({ frames := 0, cells := 1, slots := 4, locals := 0 } : Room)) (fun a U => a = #[.ref my, .ref mx] ∧ Z.Warmed39 U.vm ∧ U.heap = h0) (fun _ _ _ _ _ => True) (fun _ U o U' => ∃ v L, o = .returned v ∧ Q_rm_ad1 Z my mx f h0 n0 v U'.heap L ∧ FrameEnd U o U' L ({ frames := 0, cells := 1, slots := 4, locals := 0 } : Room).cells ({ frames := 0, cells := 1, slots := 4, locals := 0 } : Room).slots) := by
 refine MetFree.of_bodySF (plainFor_of_name own_pn1) hisR ?_
 intro p e s m args below meth c s₁ Bd hml0 hP hK
 obtain ⟨rfl, hZ, hh⟩ := hP
 have hx := Bd.exec
 have hby := Bd.bytes
 have hml : c.maxLocals = 9 := hml0
 have hown : s.vm.findClass "java/math/BigInteger" = some m.cls := findClass_of_methodNamed Bd.named
 have hnm := (name_of_methodNamed Bd.named Bd.method).1
 have X0 : Stand p l e ({ frames := 0, cells := 1, slots := 4, locals := 0 } : Room) s m #[.ref my, .ref mx] below meth c s₁ [] 0 0 := Stand.of_body Bd
 have e0 : s₁.heap = h0 := by rw [← hh, Bd.state]; rfl
 have N0 := Fr.nil n0
 obtain ⟨B0, hB0⟩ : ∃ B, B = (s₁.setTop (entryFrame m #[.ref my, .ref mx] 9)) := ⟨_, rfl⟩
 have st0 : own_K p e below s₁ m 0 #[rv my, rv mx, .unset, .unset, .unset, .unset, .unset, .unset, .unset] [] B0 := fun t kk0 => hB0 ▸ castTop (own_ef25_RR m my mx) kk0
 have k0 : Keep h0 h0 [] := Keep.refl _ _
 have st1 : own_K p e below s₁ m 1 #[rv my, rv mx, .unset, .unset, .unset, .unset, .unset, .unset, .unset] [.ref my] B0 := fun t kt => st0 t (by
  refine XS.aloadN X0.here hx rfl (hb hby d25_0) rfl rfl ?_
  exact kt)
 have ls2 := own_alen X0 hx hZ e0 Ay (g := (mkF m 1 #[rv my, rv mx, .unset, .unset, .unset, .unset, .unset, .unset, .unset] [.ref my])) rfl rfl (hb hby d25_1)
 have st3 := fun t kt => st1 t (ls2 t kt)
 have st4 : own_K p e below s₁ m 3 #[rv my, rv mx, .unset, .unset, .unset, .unset, .unset, .unset, .unset] [.ref mx, .int 1] B0 := fun t kt => st3 t (by
  refine XS.aloadN X0.here hx rfl (hb hby d25_2) rfl rfl ?_
  exact kt)
 have ls5 := own_alen X0 hx hZ e0 Ax (g := (mkF m 3 #[rv my, rv mx, .unset, .unset, .unset, .unset, .unset, .unset, .unset] [.ref mx, .int 1])) rfl rfl (hb hby d25_3)
 have st6 := fun t kt => st4 t (ls5 t kt)
 have hc7 : (1 : Int32) < (4 : Int32) := by decide
 have st8 : own_K p e below s₁ m 14 #[rv mx, rv my, rv my, .unset, .unset, .unset, .unset, .unset, .unset] [.ref mx] B0 := fun t kt => st6 t (by
  refine XS.icmpNo X0.here hx rfl (hb hby d25_4) rfl (tlt hc7).2.1 ?_
  refine XS.aloadN X0.here hx rfl (hb hby d25_7) rfl rfl ?_
  refine XS.astoreN X0.here hx rfl (hb hby d25_8) rfl rfl (l' := #[rv my, rv mx, rv my, .unset, .unset, .unset, .unset, .unset, .unset]) rfl ?_
  refine XS.aloadN X0.here hx rfl (hb hby d25_9) rfl rfl ?_
  refine XS.astoreN X0.here hx rfl (hb hby d25_10) rfl rfl (l' := #[rv mx, rv mx, rv my, .unset, .unset, .unset, .unset, .unset, .unset]) rfl ?_
  refine XS.aloadN X0.here hx rfl (hb hby d25_11) rfl rfl ?_
  refine XS.astoreN X0.here hx rfl (hb hby d25_12) rfl rfl (l' := #[rv mx, rv my, rv my, .unset, .unset, .unset, .unset, .unset, .unset]) rfl ?_
  refine XS.aloadN X0.here hx rfl (hb hby d25_13) rfl rfl ?_
  exact kt)
 have ls9 := own_alen X0 hx hZ e0 Ax (g := (mkF m 14 #[rv mx, rv my, rv my, .unset, .unset, .unset, .unset, .unset, .unset] [.ref mx])) rfl rfl (hb hby d25_14)
 have st10 := fun t kt => st8 t (ls9 t kt)
 have st11 : own_K p e below s₁ m 17 #[rv mx, rv my, iv 4, .unset, .unset, .unset, .unset, .unset, .unset] [.ref my] B0 := fun t kt => st10 t (by
  refine XS.istoreN X0.here hx rfl (hb hby d25_15) rfl (l' := #[rv mx, rv my, iv 4, .unset, .unset, .unset, .unset, .unset, .unset]) rfl ?_
  refine XS.aloadN X0.here hx rfl (hb hby d25_16) rfl rfl ?_
  exact kt)
 have ls12 := own_alen X0 hx hZ e0 Ay (g := (mkF m 17 #[rv mx, rv my, iv 4, .unset, .unset, .unset, .unset, .unset, .unset] [.ref my])) rfl rfl (hb hby d25_17)
 have st13 := fun t kt => st11 t (ls12 t kt)
 have st14 : own_K p e below s₁ m 20 #[rv mx, rv my, iv 4, iv 1, .unset, .unset, .unset, .unset, .unset] [.int 4] B0 := fun t kt => st13 t (by
  refine XS.istoreN X0.here hx rfl (hb hby d25_18) rfl (l' := #[rv mx, rv my, iv 4, iv 1, .unset, .unset, .unset, .unset, .unset]) rfl ?_
  refine XS.iloadN X0.here hx rfl (hb hby d25_19) rfl ?_
  exact kt)
 obtain ⟨T15, h15, c15, X15, e15, E15, A15, ls15⟩ := newP X0 hx hZ (own_w hw 82 rfl) e0 (g := (mkF m 20 #[rv mx, rv my, iv 4, iv 1, .unset, .unset, .unset, .unset, .unset] [.int 4])) rfl (hb hby d25_20) rfl (by decide) (cap := 4) (by decide) (by decide) (by decide) (by decide)
 obtain ⟨br, g15⟩ : ∃ z, z = h0.size := ⟨_, rfl⟩
 rw [← g15] at A15 ls15
 have ne_mx_br : mx ≠ br := Nat.ne_of_lt (Nat.lt_of_lt_of_le Ax.lt (Nat.le_of_eq g15.symm))
 have g_br : n0 ≤ br := Nat.le_trans Z0 (Nat.le_of_eq g15.symm)
 have sz_br : h0.size ≤ br := Nat.le_trans k0.1 (Nat.le_of_eq g15.symm)
 have f16 := Ay.ext E15
 have f17 := Ax.ext E15
 have z18 := Nat.le_trans Z0 E15.1
 have k19 := k0.ext E15
 have f20 : own_Av Z h15 br .int 4 (fun _ => (.int 0)) := own_Av.new A15 (by decide) (by decide)
 have st21 := fun t kt => st14 t (ls15 t kt)
 have hc22 : (1 : Int32) = (1 : Int32) := by decide
 have st23 : own_K p e below T15 m 37 #[rv mx, rv my, iv 3, iv 1, rv br, .val (.long (0 : Int64)), .second, .unset, .unset] [.int 3, .ref mx] B0 := fun t kt => st21 t (by
  refine XS.astore X15.here hx rfl (hb hby d25_22) rfl rfl (l' := #[rv mx, rv my, iv 4, iv 1, rv br, .unset, .unset, .unset, .unset]) rfl ?_
  refine XS.lconst X15.here hx rfl (hb hby d25_24) ?_
  refine XS.lstore X15.here hx rfl (hb hby d25_25) rfl (l' := #[rv mx, rv my, iv 4, iv 1, rv br, .val (.long (0 : Int64)), .second, .unset, .unset]) rfl ?_
  refine XS.iloadN X15.here hx rfl (hb hby d25_27) rfl ?_
  refine XS.iconst X15.here hx rfl (hb hby d25_28) ?_
  refine XS.icmpNo X15.here hx rfl (hb hby d25_29) rfl (teq hc22).2 ?_
  refine XS.aloadN X15.here hx rfl (hb hby d25_32) rfl rfl ?_
  refine XS.iinc X15.here hx rfl (hb hby d25_33) rfl (l' := #[rv mx, rv my, iv ((4 : Int32) + (-1 : Int32)), iv 1, rv br, .val (.long (0 : Int64)), .second, .unset, .unset]) rfl ?_
  show own_At p e below T15 m 36 #[rv mx, rv my, iv ((4 : Int32) + (-1 : Int32)), iv 1, rv br, .val (.long (0 : Int64)), .second, .unset, .unset] [.ref mx] _
  rw [show ((4 : Int32) + (-1 : Int32)) = (3 : Int32) from (by decide +kernel)]
  refine XS.iloadN X15.here hx rfl (hb hby d25_36) rfl ?_
  exact kt)
 have ls24 := own_iaload X15 hx hZ e15 f17 (j := (3 : Int32)) (i := 3) (by decide) (by decide) (by decide) (v := (.int 1)) (rfl) (g := (mkF m 37 #[rv mx, rv my, iv 3, iv 1, rv br, .val (.long (0 : Int64)), .second, .unset, .unset] [.int 3, .ref mx])) rfl rfl (hb hby d25_37)
 have st25 := fun t kt => st23 t (ls24 t kt)
 have st26 : own_K p e below T15 m 45 #[rv mx, rv my, iv 3, iv 1, rv br, .val (.long (0 : Int64)), .second, .unset, .unset] [.int 0, .ref my, (.long (((1 : Int32).toInt64) &&& (4294967295 : Int64)))] B0 := fun t kt => st25 t (by
  refine XS.i2l X15.here hx rfl (hb hby d25_38) rfl ?_
  show own_At p e below T15 m 39 #[rv mx, rv my, iv 3, iv 1, rv br, .val (.long (0 : Int64)), .second, .unset, .unset] [(.long ((1 : Int32).toInt64))] _
  refine X15.ldc2Long hx hown (mvT hZ (own_w hw 108 rfl)) (g := (mkF m 39 #[rv mx, rv my, iv 3, iv 1, rv br, .val (.long (0 : Int64)), .second, .unset, .unset] [(.long ((1 : Int32).toInt64))])) rfl (hb hby d25_39) _ ?_
  refine XS.land X15.here hx rfl (hb hby d25_42) rfl ?_
  refine XS.aloadN X15.here hx rfl (hb hby d25_43) rfl rfl ?_
  refine XS.iconst X15.here hx rfl (hb hby d25_44) ?_
  exact kt)
 have ls27 := own_iaload X15 hx hZ e15 f16 (j := (0 : Int32)) (i := 0) (by decide) (by decide) (by decide) (v := (.int (f 0))) (rfl) (g := (mkF m 45 #[rv mx, rv my, iv 3, iv 1, rv br, .val (.long (0 : Int64)), .second, .unset, .unset] [.int 0, .ref my, (.long (((1 : Int32).toInt64) &&& (4294967295 : Int64)))])) rfl rfl (hb hby d25_45)
 have st28 := fun t kt => st26 t (ls27 t kt)
 obtain ⟨sm, h_sm⟩ : ∃ z : Int64, z = (own_u 1 + own_u (f 0)) := ⟨_, rfl⟩
 have st29 : own_K p e below T15 m 60 #[rv mx, rv my, iv 3, iv 1, rv br, .val (.long sm), .second, .unset, .unset] [.int (sm.toInt32), .int 3, .ref br] B0 := fun t kt => st28 t (by
  refine XS.i2l X15.here hx rfl (hb hby d25_46) rfl ?_
  show own_At p e below T15 m 47 #[rv mx, rv my, iv 3, iv 1, rv br, .val (.long (0 : Int64)), .second, .unset, .unset] [(.long ((f 0).toInt64)), (.long (((1 : Int32).toInt64) &&& (4294967295 : Int64)))] _
  refine X15.ldc2Long hx hown (mvT hZ (own_w hw 108 rfl)) (g := (mkF m 47 #[rv mx, rv my, iv 3, iv 1, rv br, .val (.long (0 : Int64)), .second, .unset, .unset] [(.long ((f 0).toInt64)), (.long (((1 : Int32).toInt64) &&& (4294967295 : Int64)))])) rfl (hb hby d25_47) _ ?_
  refine XS.land X15.here hx rfl (hb hby d25_50) rfl ?_
  refine XS.ladd X15.here hx rfl (hb hby d25_51) rfl ?_
  show own_At p e below T15 m 52 #[rv mx, rv my, iv 3, iv 1, rv br, .val (.long (0 : Int64)), .second, .unset, .unset] [(.long ((((1 : Int32).toInt64) &&& (4294967295 : Int64)) + (((f 0).toInt64) &&& (4294967295 : Int64))))] _
  rw [show ((((1 : Int32).toInt64) &&& (4294967295 : Int64)) + (((f 0).toInt64) &&& (4294967295 : Int64))) = (own_u 1 + own_u (f 0)) from (rfl)]
  show own_At p e below T15 m 52 #[rv mx, rv my, iv 3, iv 1, rv br, .val (.long (0 : Int64)), .second, .unset, .unset] [(.long (own_u 1 + own_u (f 0)))] _
  rw [← h_sm]
  refine XS.lstore X15.here hx rfl (hb hby d25_52) rfl (l' := #[rv mx, rv my, iv 3, iv 1, rv br, .val (.long sm), .second, .unset, .unset]) rfl ?_
  refine XS.aload X15.here hx rfl (hb hby d25_54) rfl rfl ?_
  refine XS.iloadN X15.here hx rfl (hb hby d25_56) rfl ?_
  refine XS.lload X15.here hx rfl (hb hby d25_57) rfl ?_
  refine XS.l2i X15.here hx rfl (hb hby d25_59) rfl ?_
  exact kt)
 obtain ⟨T30, h30, X30, e30, W30, B30, ls30⟩ := own_iastore X15 hx hZ e15 f20 (j := (3 : Int32)) (i := 3) (by decide) (by decide) (by decide) (g := (mkF m 60 #[rv mx, rv my, iv 3, iv 1, rv br, .val (.long sm), .second, .unset, .unset] [.int (sm.toInt32), .int 3, .ref br])) rfl rfl (hb hby d25_60)
 have N30 := Fr.snoc X30 N0 g_br
 have f32 := f17.other W30 ne_mx_br
 have z33 := Nat.le_trans z18 (Keep.of_wr W30).1
 have k34 := k19.wr W30 (Or.inr sz_br)
 have f35 := B30
 have st36 := fun t kt => st29 t (ls30 t kt)
 have st37 : own_K p e below T30 m 116 #[rv mx, rv my, iv 3, iv 1, rv br, .val (.long sm), .second, .unset, .unset] [(.int (lcmpW (own_sh sm) (0 : Int64)))] B0 := fun t kt => st36 t (by
  refine XS.goto X30.here hx rfl (pc0 := 61) (pc' := 109) rfl (hb hby d25_61) (by decide) (by decide) ?_
  refine XS.lload X30.here hx rfl (hb hby d25_109) rfl ?_
  refine XS.bipush X30.here hx rfl (hb hby d25_111) ?_
  refine XS.lushr X30.here hx rfl (hb hby d25_113) rfl ?_
  show own_At p e below T30 m 114 #[rv mx, rv my, iv 3, iv 1, rv br, .val (.long sm), .second, .unset, .unset] [(.long ((sm.toUInt64 >>> ((32 : Int32) &&& 0x3f).toInt64.toUInt64).toInt64))] _
  rw [show ((sm.toUInt64 >>> ((32 : Int32) &&& 0x3f).toInt64.toUInt64).toInt64) = (own_sh sm) from (rfl)]
  refine XS.lconst X30.here hx rfl (hb hby d25_114) ?_
  refine XS.lcmp X30.here hx rfl (hb hby d25_115) rfl ?_
  exact kt)
 by_cases q1 : (own_sh sm) = (0 : Int64)
 ·have hc38 : (0 : Int32) < (3 : Int32) := by decide
  have hc39 : (0 : Int32) = (0 : Int32) := by decide
  have hc40 : (0 : Int32) < (3 : Int32) := by decide
  have st41 : own_K p e below T30 m 173 #[rv mx, rv my, iv 2, iv 1, rv br, .val (.long sm), .second, iv 0, .unset] [.int 2, .ref mx, .int 2, .ref br] B0 := fun t kt => st37 t (by
   refine XS.ifYes X30.here hx rfl (pc0 := 116) (pc' := 123) rfl (hb hby d25_116) rfl ((if0 _ _).trans (teq ((lw_eq _ _).mpr q1)).1) (by decide) (by decide) ?_
   refine XS.iconst X30.here hx rfl (hb hby d25_123) ?_
   refine XS.istore X30.here hx rfl (hb hby d25_124) rfl (l' := #[rv mx, rv my, iv 3, iv 1, rv br, .val (.long sm), .second, iv 0, .unset]) rfl ?_
   refine XS.iloadN X30.here hx rfl (hb hby d25_126) rfl ?_
   refine XS.ifNo X30.here hx rfl (hb hby d25_127) rfl ((if0 _ _).trans (tlt hc38).2.2.2) ?_
   refine XS.iload X30.here hx rfl (hb hby d25_130) rfl ?_
   refine XS.ifYes X30.here hx rfl (pc0 := 132) (pc' := 161) rfl (hb hby d25_132) rfl ((if0 _ _).trans (teq hc39).1) (by decide) (by decide) ?_
   refine XS.iloadN X30.here hx rfl (hb hby d25_161) rfl ?_
   refine XS.ifNo X30.here hx rfl (hb hby d25_162) rfl ((if0 _ _).trans (tlt hc40).2.2.2) ?_
   refine XS.aload X30.here hx rfl (hb hby d25_165) rfl rfl ?_
   refine XS.iinc X30.here hx rfl (hb hby d25_167) rfl (l' := #[rv mx, rv my, iv ((3 : Int32) + (-1 : Int32)), iv 1, rv br, .val (.long sm), .second, iv 0, .unset]) rfl ?_
   show own_At p e below T30 m 170 #[rv mx, rv my, iv ((3 : Int32) + (-1 : Int32)), iv 1, rv br, .val (.long sm), .second, iv 0, .unset] [.ref br] _
   rw [show ((3 : Int32) + (-1 : Int32)) = (2 : Int32) from (by decide +kernel)]
   refine XS.iloadN X30.here hx rfl (hb hby d25_170) rfl ?_
   refine XS.aloadN X30.here hx rfl (hb hby d25_171) rfl rfl ?_
   refine XS.iloadN X30.here hx rfl (hb hby d25_172) rfl ?_
   exact kt)
  have ls42 := own_iaload X30 hx hZ e30 f32 (j := (2 : Int32)) (i := 2) (by decide) (by decide) (by decide) (v := (.int 0)) (rfl) (g := (mkF m 173 #[rv mx, rv my, iv 2, iv 1, rv br, .val (.long sm), .second, iv 0, .unset] [.int 2, .ref mx, .int 2, .ref br])) rfl rfl (hb hby d25_173)
  have st43 := fun t kt => st41 t (ls42 t kt)
  obtain ⟨T44, h44, X44, e44, W44, B44, ls44⟩ := own_iastore X30 hx hZ e30 f35 (j := (2 : Int32)) (i := 2) (by decide) (by decide) (by decide) (g := (mkF m 174 #[rv mx, rv my, iv 2, iv 1, rv br, .val (.long sm), .second, iv 0, .unset] [.int 0, .int 2, .ref br])) rfl rfl (hb hby d25_174)
  have N44 := Fr.snoc X44 N30 g_br
  have f46 := f32.other W44 ne_mx_br
  have z47 := Nat.le_trans z33 (Keep.of_wr W44).1
  have k48 := k34.wr W44 (Or.inr sz_br)
  have f49 := B44
  have st50 := fun t kt => st43 t (ls44 t kt)
  have hc51 : (0 : Int32) < (2 : Int32) := by decide
  have st52 : own_K p e below T44 m 173 #[rv mx, rv my, iv 1, iv 1, rv br, .val (.long sm), .second, iv 0, .unset] [.int 1, .ref mx, .int 1, .ref br] B0 := fun t kt => st50 t (by
   refine XS.goto X44.here hx rfl (pc0 := 175) (pc' := 161) rfl (hb hby d25_175) (by decide) (by decide) ?_
   refine XS.iloadN X44.here hx rfl (hb hby d25_161) rfl ?_
   refine XS.ifNo X44.here hx rfl (hb hby d25_162) rfl ((if0 _ _).trans (tlt hc51).2.2.2) ?_
   refine XS.aload X44.here hx rfl (hb hby d25_165) rfl rfl ?_
   refine XS.iinc X44.here hx rfl (hb hby d25_167) rfl (l' := #[rv mx, rv my, iv ((2 : Int32) + (-1 : Int32)), iv 1, rv br, .val (.long sm), .second, iv 0, .unset]) rfl ?_
   show own_At p e below T44 m 170 #[rv mx, rv my, iv ((2 : Int32) + (-1 : Int32)), iv 1, rv br, .val (.long sm), .second, iv 0, .unset] [.ref br] _
   rw [show ((2 : Int32) + (-1 : Int32)) = (1 : Int32) from (by decide +kernel)]
   refine XS.iloadN X44.here hx rfl (hb hby d25_170) rfl ?_
   refine XS.aloadN X44.here hx rfl (hb hby d25_171) rfl rfl ?_
   refine XS.iloadN X44.here hx rfl (hb hby d25_172) rfl ?_
   exact kt)
  have ls53 := own_iaload X44 hx hZ e44 f46 (j := (1 : Int32)) (i := 1) (by decide) (by decide) (by decide) (v := (.int (-1 : Int32))) (rfl) (g := (mkF m 173 #[rv mx, rv my, iv 1, iv 1, rv br, .val (.long sm), .second, iv 0, .unset] [.int 1, .ref mx, .int 1, .ref br])) rfl rfl (hb hby d25_173)
  have st54 := fun t kt => st52 t (ls53 t kt)
  obtain ⟨T55, h55, X55, e55, W55, B55, ls55⟩ := own_iastore X44 hx hZ e44 f49 (j := (1 : Int32)) (i := 1) (by decide) (by decide) (by decide) (g := (mkF m 174 #[rv mx, rv my, iv 1, iv 1, rv br, .val (.long sm), .second, iv 0, .unset] [.int (-1 : Int32), .int 1, .ref br])) rfl rfl (hb hby d25_174)
  have N55 := Fr.snoc X55 N44 g_br
  have f57 := f46.other W55 ne_mx_br
  have z58 := Nat.le_trans z47 (Keep.of_wr W55).1
  have k59 := k48.wr W55 (Or.inr sz_br)
  have f60 := B55
  have st61 := fun t kt => st54 t (ls55 t kt)
  have hc62 : (0 : Int32) < (1 : Int32) := by decide
  have st63 : own_K p e below T55 m 173 #[rv mx, rv my, iv 0, iv 1, rv br, .val (.long sm), .second, iv 0, .unset] [.int 0, .ref mx, .int 0, .ref br] B0 := fun t kt => st61 t (by
   refine XS.goto X55.here hx rfl (pc0 := 175) (pc' := 161) rfl (hb hby d25_175) (by decide) (by decide) ?_
   refine XS.iloadN X55.here hx rfl (hb hby d25_161) rfl ?_
   refine XS.ifNo X55.here hx rfl (hb hby d25_162) rfl ((if0 _ _).trans (tlt hc62).2.2.2) ?_
   refine XS.aload X55.here hx rfl (hb hby d25_165) rfl rfl ?_
   refine XS.iinc X55.here hx rfl (hb hby d25_167) rfl (l' := #[rv mx, rv my, iv ((1 : Int32) + (-1 : Int32)), iv 1, rv br, .val (.long sm), .second, iv 0, .unset]) rfl ?_
   show own_At p e below T55 m 170 #[rv mx, rv my, iv ((1 : Int32) + (-1 : Int32)), iv 1, rv br, .val (.long sm), .second, iv 0, .unset] [.ref br] _
   rw [show ((1 : Int32) + (-1 : Int32)) = (0 : Int32) from (by decide +kernel)]
   refine XS.iloadN X55.here hx rfl (hb hby d25_170) rfl ?_
   refine XS.aloadN X55.here hx rfl (hb hby d25_171) rfl rfl ?_
   refine XS.iloadN X55.here hx rfl (hb hby d25_172) rfl ?_
   exact kt)
  have ls64 := own_iaload X55 hx hZ e55 f57 (j := (0 : Int32)) (i := 0) (by decide) (by decide) (by decide) (v := (.int 1073741823)) (rfl) (g := (mkF m 173 #[rv mx, rv my, iv 0, iv 1, rv br, .val (.long sm), .second, iv 0, .unset] [.int 0, .ref mx, .int 0, .ref br])) rfl rfl (hb hby d25_173)
  have st65 := fun t kt => st63 t (ls64 t kt)
  obtain ⟨T66, h66, X66, e66, W66, B66, ls66⟩ := own_iastore X55 hx hZ e55 f60 (j := (0 : Int32)) (i := 0) (by decide) (by decide) (by decide) (g := (mkF m 174 #[rv mx, rv my, iv 0, iv 1, rv br, .val (.long sm), .second, iv 0, .unset] [.int 1073741823, .int 0, .ref br])) rfl rfl (hb hby d25_174)
  have N66 := Fr.snoc X66 N55 g_br
  have z69 := Nat.le_trans z58 (Keep.of_wr W66).1
  have k70 := k59.wr W66 (Or.inr sz_br)
  have f71 := B66
  have st72 := fun t kt => st65 t (ls66 t kt)
  have hc73 : ¬ ((0 : Int32) < (0 : Int32)) := by decide
  have hc74 : (0 : Int32) = (0 : Int32) := by decide
  have st75 : own_K p e below T66 m 214 #[rv mx, rv my, iv 0, iv 1, rv br, .val (.long sm), .second, iv 0, .unset] [.ref br] B0 := fun t kt => st72 t (by
   refine XS.goto X66.here hx rfl (pc0 := 175) (pc' := 161) rfl (hb hby d25_175) (by decide) (by decide) ?_
   refine XS.iloadN X66.here hx rfl (hb hby d25_161) rfl ?_
   refine XS.ifYes X66.here hx rfl (pc0 := 162) (pc' := 178) rfl (hb hby d25_162) rfl ((if0 _ _).trans (flt hc73).2.2.2) (by decide) (by decide) ?_
   refine XS.iload X66.here hx rfl (hb hby d25_178) rfl ?_
   refine XS.ifYes X66.here hx rfl (pc0 := 180) (pc' := 212) rfl (hb hby d25_180) rfl ((if0 _ _).trans (teq hc74).1) (by decide) (by decide) ?_
   refine XS.aload X66.here hx rfl (hb hby d25_212) rfl rfl ?_
   exact kt)
  obtain ⟨fs, hr, hrun, hended, hW, hsame⟩ := X66.leave (v := (some (.ref br))) (fun h => by rw [Bd.returns] at h; cases h)
  subst hB0
  refine ⟨_, _, st75 _ ?_, hrun, hended, _, _, rfl, ?_, ⟨_, rfl⟩, hW, hsame.mono (by decide) (by decide)⟩
  ·exact retOut X66 hx Bd.returns rfl (Or.inr (Or.inr (Or.inr (Or.inr ⟨rfl, rfl, rfl⟩)))) (hb hby d25_214) hr
  ·show Q_rm_ad1 Z my mx f h0 n0 _ T66.heap _
   rw [e66]
   exact ⟨_, rfl, N66, k70, g_br, sz_br, f71.congr (g := fun q => .int (own_ad1 f q)) (fun q hq => by
   have z : q = 0 ∨ q = 1 ∨ q = 2 ∨ q = 3 := by omega
   unfold own_ad1 own_w4
   rw [h_sm] at q1
   rw [if_pos q1]
   subst h_sm
   rcases z with rfl | rfl | rfl | rfl <;> rfl)⟩
 ·have hc76 : (0 : Int32) < (3 : Int32) := by decide
  have hc77 : ¬ ((1 : Int32) = (0 : Int32)) := by decide
  have st78 : own_K p e below T30 m 143 #[rv mx, rv my, iv 2, iv 1, rv br, .val (.long sm), .second, iv 1, .unset] [.int 2, .ref mx, .int 2, .ref br] B0 := fun t kt => st37 t (by
   refine XS.ifNo X30.here hx rfl (hb hby d25_116) rfl ((if0 _ _).trans (feq (fun q => q1 ((lw_eq _ _).mp q))).1) ?_
   refine XS.iconst X30.here hx rfl (hb hby d25_119) ?_
   refine XS.goto X30.here hx rfl (pc0 := 120) (pc' := 124) rfl (hb hby d25_120) (by decide) (by decide) ?_
   refine XS.istore X30.here hx rfl (hb hby d25_124) rfl (l' := #[rv mx, rv my, iv 3, iv 1, rv br, .val (.long sm), .second, iv 1, .unset]) rfl ?_
   refine XS.iloadN X30.here hx rfl (hb hby d25_126) rfl ?_
   refine XS.ifNo X30.here hx rfl (hb hby d25_127) rfl ((if0 _ _).trans (tlt hc76).2.2.2) ?_
   refine XS.iload X30.here hx rfl (hb hby d25_130) rfl ?_
   refine XS.ifNo X30.here hx rfl (hb hby d25_132) rfl ((if0 _ _).trans (feq hc77).1) ?_
   refine XS.aload X30.here hx rfl (hb hby d25_135) rfl rfl ?_
   refine XS.iinc X30.here hx rfl (hb hby d25_137) rfl (l' := #[rv mx, rv my, iv ((3 : Int32) + (-1 : Int32)), iv 1, rv br, .val (.long sm), .second, iv 1, .unset]) rfl ?_
   show own_At p e below T30 m 140 #[rv mx, rv my, iv ((3 : Int32) + (-1 : Int32)), iv 1, rv br, .val (.long sm), .second, iv 1, .unset] [.ref br] _
   rw [show ((3 : Int32) + (-1 : Int32)) = (2 : Int32) from (by decide +kernel)]
   refine XS.iloadN X30.here hx rfl (hb hby d25_140) rfl ?_
   refine XS.aloadN X30.here hx rfl (hb hby d25_141) rfl rfl ?_
   refine XS.iloadN X30.here hx rfl (hb hby d25_142) rfl ?_
   exact kt)
  have ls79 := own_iaload X30 hx hZ e30 f32 (j := (2 : Int32)) (i := 2) (by decide) (by decide) (by decide) (v := (.int 0)) (rfl) (g := (mkF m 143 #[rv mx, rv my, iv 2, iv 1, rv br, .val (.long sm), .second, iv 1, .unset] [.int 2, .ref mx, .int 2, .ref br])) rfl rfl (hb hby d25_143)
  have st80 := fun t kt => st78 t (ls79 t kt)
  have st81 : own_K p e below T30 m 147 #[rv mx, rv my, iv 2, iv 1, rv br, .val (.long sm), .second, iv 1, .unset] [.int 1, .int 2, .ref br, .int 1] B0 := fun t kt => st80 t (by
   refine XS.iconst X30.here hx rfl (hb hby d25_144) ?_
   refine XS.iadd X30.here hx rfl (hb hby d25_145) rfl ?_
   show own_At p e below T30 m 146 #[rv mx, rv my, iv 2, iv 1, rv br, .val (.long sm), .second, iv 1, .unset] [(.int ((0 : Int32) + (1 : Int32))), .int 2, .ref br] _
   rw [show ((0 : Int32) + (1 : Int32)) = (1 : Int32) from (by decide +kernel)]
   show own_At p e below T30 m 146 #[rv mx, rv my, iv 2, iv 1, rv br, .val (.long sm), .second, iv 1, .unset] [.int 1, .int 2, .ref br] _
   jvm_step X30.here [X30.here.top, hx, (hb hby d25_146), Value.category]
   exact kt)
  obtain ⟨T82, h82, X82, e82, W82, B82, ls82⟩ := own_iastore X30 hx hZ e30 f35 (j := (2 : Int32)) (i := 2) (by decide) (by decide) (by decide) (g := (mkF m 147 #[rv mx, rv my, iv 2, iv 1, rv br, .val (.long sm), .second, iv 1, .unset] [.int 1, .int 2, .ref br, .int 1])) rfl rfl (hb hby d25_147)
  have N82 := Fr.snoc X82 N30 g_br
  have f84 := f32.other W82 ne_mx_br
  have z85 := Nat.le_trans z33 (Keep.of_wr W82).1
  have k86 := k34.wr W82 (Or.inr sz_br)
  have f87 := B82
  have st88 := fun t kt => st81 t (ls82 t kt)
  have hc89 : ¬ ((1 : Int32) = (0 : Int32)) := by decide
  have hc90 : (0 : Int32) < (2 : Int32) := by decide
  have hc91 : (0 : Int32) = (0 : Int32) := by decide
  have hc92 : (0 : Int32) < (2 : Int32) := by decide
  have st93 : own_K p e below T82 m 173 #[rv mx, rv my, iv 1, iv 1, rv br, .val (.long sm), .second, iv 0, .unset] [.int 1, .ref mx, .int 1, .ref br] B0 := fun t kt => st88 t (by
   refine XS.ifYes X82.here hx rfl (pc0 := 148) (pc' := 155) rfl (hb hby d25_148) rfl ((if0 _ _).trans (feq hc89).2) (by decide) (by decide) ?_
   refine XS.iconst X82.here hx rfl (hb hby d25_155) ?_
   refine XS.istore X82.here hx rfl (hb hby d25_156) rfl (l' := #[rv mx, rv my, iv 2, iv 1, rv br, .val (.long sm), .second, iv 0, .unset]) rfl ?_
   refine XS.goto X82.here hx rfl (pc0 := 158) (pc' := 126) rfl (hb hby d25_158) (by decide) (by decide) ?_
   refine XS.iloadN X82.here hx rfl (hb hby d25_126) rfl ?_
   refine XS.ifNo X82.here hx rfl (hb hby d25_127) rfl ((if0 _ _).trans (tlt hc90).2.2.2) ?_
   refine XS.iload X82.here hx rfl (hb hby d25_130) rfl ?_
   refine XS.ifYes X82.here hx rfl (pc0 := 132) (pc' := 161) rfl (hb hby d25_132) rfl ((if0 _ _).trans (teq hc91).1) (by decide) (by decide) ?_
   refine XS.iloadN X82.here hx rfl (hb hby d25_161) rfl ?_
   refine XS.ifNo X82.here hx rfl (hb hby d25_162) rfl ((if0 _ _).trans (tlt hc92).2.2.2) ?_
   refine XS.aload X82.here hx rfl (hb hby d25_165) rfl rfl ?_
   refine XS.iinc X82.here hx rfl (hb hby d25_167) rfl (l' := #[rv mx, rv my, iv ((2 : Int32) + (-1 : Int32)), iv 1, rv br, .val (.long sm), .second, iv 0, .unset]) rfl ?_
   show own_At p e below T82 m 170 #[rv mx, rv my, iv ((2 : Int32) + (-1 : Int32)), iv 1, rv br, .val (.long sm), .second, iv 0, .unset] [.ref br] _
   rw [show ((2 : Int32) + (-1 : Int32)) = (1 : Int32) from (by decide +kernel)]
   refine XS.iloadN X82.here hx rfl (hb hby d25_170) rfl ?_
   refine XS.aloadN X82.here hx rfl (hb hby d25_171) rfl rfl ?_
   refine XS.iloadN X82.here hx rfl (hb hby d25_172) rfl ?_
   exact kt)
  have ls94 := own_iaload X82 hx hZ e82 f84 (j := (1 : Int32)) (i := 1) (by decide) (by decide) (by decide) (v := (.int (-1 : Int32))) (rfl) (g := (mkF m 173 #[rv mx, rv my, iv 1, iv 1, rv br, .val (.long sm), .second, iv 0, .unset] [.int 1, .ref mx, .int 1, .ref br])) rfl rfl (hb hby d25_173)
  have st95 := fun t kt => st93 t (ls94 t kt)
  obtain ⟨T96, h96, X96, e96, W96, B96, ls96⟩ := own_iastore X82 hx hZ e82 f87 (j := (1 : Int32)) (i := 1) (by decide) (by decide) (by decide) (g := (mkF m 174 #[rv mx, rv my, iv 1, iv 1, rv br, .val (.long sm), .second, iv 0, .unset] [.int (-1 : Int32), .int 1, .ref br])) rfl rfl (hb hby d25_174)
  have N96 := Fr.snoc X96 N82 g_br
  have f98 := f84.other W96 ne_mx_br
  have z99 := Nat.le_trans z85 (Keep.of_wr W96).1
  have k100 := k86.wr W96 (Or.inr sz_br)
  have f101 := B96
  have st102 := fun t kt => st95 t (ls96 t kt)
  have hc103 : (0 : Int32) < (1 : Int32) := by decide
  have st104 : own_K p e below T96 m 173 #[rv mx, rv my, iv 0, iv 1, rv br, .val (.long sm), .second, iv 0, .unset] [.int 0, .ref mx, .int 0, .ref br] B0 := fun t kt => st102 t (by
   refine XS.goto X96.here hx rfl (pc0 := 175) (pc' := 161) rfl (hb hby d25_175) (by decide) (by decide) ?_
   refine XS.iloadN X96.here hx rfl (hb hby d25_161) rfl ?_
   refine XS.ifNo X96.here hx rfl (hb hby d25_162) rfl ((if0 _ _).trans (tlt hc103).2.2.2) ?_
   refine XS.aload X96.here hx rfl (hb hby d25_165) rfl rfl ?_
   refine XS.iinc X96.here hx rfl (hb hby d25_167) rfl (l' := #[rv mx, rv my, iv ((1 : Int32) + (-1 : Int32)), iv 1, rv br, .val (.long sm), .second, iv 0, .unset]) rfl ?_
   show own_At p e below T96 m 170 #[rv mx, rv my, iv ((1 : Int32) + (-1 : Int32)), iv 1, rv br, .val (.long sm), .second, iv 0, .unset] [.ref br] _
   rw [show ((1 : Int32) + (-1 : Int32)) = (0 : Int32) from (by decide +kernel)]
   refine XS.iloadN X96.here hx rfl (hb hby d25_170) rfl ?_
   refine XS.aloadN X96.here hx rfl (hb hby d25_171) rfl rfl ?_
   refine XS.iloadN X96.here hx rfl (hb hby d25_172) rfl ?_
   exact kt)
  have ls105 := own_iaload X96 hx hZ e96 f98 (j := (0 : Int32)) (i := 0) (by decide) (by decide) (by decide) (v := (.int 1073741823)) (rfl) (g := (mkF m 173 #[rv mx, rv my, iv 0, iv 1, rv br, .val (.long sm), .second, iv 0, .unset] [.int 0, .ref mx, .int 0, .ref br])) rfl rfl (hb hby d25_173)
  have st106 := fun t kt => st104 t (ls105 t kt)
  obtain ⟨T107, h107, X107, e107, W107, B107, ls107⟩ := own_iastore X96 hx hZ e96 f101 (j := (0 : Int32)) (i := 0) (by decide) (by decide) (by decide) (g := (mkF m 174 #[rv mx, rv my, iv 0, iv 1, rv br, .val (.long sm), .second, iv 0, .unset] [.int 1073741823, .int 0, .ref br])) rfl rfl (hb hby d25_174)
  have N107 := Fr.snoc X107 N96 g_br
  have z110 := Nat.le_trans z99 (Keep.of_wr W107).1
  have k111 := k100.wr W107 (Or.inr sz_br)
  have f112 := B107
  have st113 := fun t kt => st106 t (ls107 t kt)
  have hc114 : ¬ ((0 : Int32) < (0 : Int32)) := by decide
  have hc115 : (0 : Int32) = (0 : Int32) := by decide
  have st116 : own_K p e below T107 m 214 #[rv mx, rv my, iv 0, iv 1, rv br, .val (.long sm), .second, iv 0, .unset] [.ref br] B0 := fun t kt => st113 t (by
   refine XS.goto X107.here hx rfl (pc0 := 175) (pc' := 161) rfl (hb hby d25_175) (by decide) (by decide) ?_
   refine XS.iloadN X107.here hx rfl (hb hby d25_161) rfl ?_
   refine XS.ifYes X107.here hx rfl (pc0 := 162) (pc' := 178) rfl (hb hby d25_162) rfl ((if0 _ _).trans (flt hc114).2.2.2) (by decide) (by decide) ?_
   refine XS.iload X107.here hx rfl (hb hby d25_178) rfl ?_
   refine XS.ifYes X107.here hx rfl (pc0 := 180) (pc' := 212) rfl (hb hby d25_180) rfl ((if0 _ _).trans (teq hc115).1) (by decide) (by decide) ?_
   refine XS.aload X107.here hx rfl (hb hby d25_212) rfl rfl ?_
   exact kt)
  obtain ⟨fs, hr, hrun, hended, hW, hsame⟩ := X107.leave (v := (some (.ref br))) (fun h => by rw [Bd.returns] at h; cases h)
  subst hB0
  refine ⟨_, _, st116 _ ?_, hrun, hended, _, _, rfl, ?_, ⟨_, rfl⟩, hW, hsame.mono (by decide) (by decide)⟩
  ·exact retOut X107 hx Bd.returns rfl (Or.inr (Or.inr (Or.inr (Or.inr ⟨rfl, rfl, rfl⟩)))) (hb hby d25_214) hr
  ·show Q_rm_ad1 Z my mx f h0 n0 _ T107.heap _
   rw [e107]
   exact ⟨_, rfl, N107, k111, g_br, sz_br, f112.congr (g := fun q => .int (own_ad1 f q)) (fun q hq => by
   have z : q = 0 ∨ q = 1 ∨ q = 2 ∨ q = 3 := by omega
   unfold own_ad1 own_w4
   rw [h_sm] at q1
   rw [if_neg q1]
   subst h_sm
   rcases z with rfl | rfl | rfl | rfl <;> rfl)⟩
def Q_rm_ad2 (Z : State) (my : Addr) (mx : Addr) (f : Nat → Int32) (h0 : Heap) (n0 : Nat) (v : Option Value) (h : Heap) (L : List Loc) : Prop := ∃ rq, v = some (.ref rq) ∧ Fr n0 L ∧ Keep h0 h [] ∧ n0 ≤ rq ∧ h0.size ≤ rq ∧ own_Av Z h rq .int 4 (fun q => .int (own_ad2 f q))
set_option maxRecDepth 65536 in
set_option maxHeartbeats 40000000 in
theorem rm_ad2 (l : Launch) (Z : State) (a0 : Array Value) (hw : ∀ d ∈ tables_1, d.before a0 Z = true) (ws : List Jvm.Cond) (my : Addr) (mx : Addr) (f : Nat → Int32) (h0 : Heap) (n0 : Nat) (Z0 : n0 ≤ h0.size) (Ay : own_Av Z h0 my .int 2 (fun q => .int (f q))) (Ax : own_Av Z h0 mx .int 4 (fun q => .int ((own_w4 1073741823 (-1) 0 1) q))) :
  MetFree l (⟨"java/math/BigInteger", "add", "([I[I)[I"⟩ : MethodName) (head1 (Jvm.Cond.code (⟨"java/math/BigInteger", "add", "([I[I)[I"⟩ : MethodName) jdk_2097_method_35_code 9 (some (.array .int)) :: ws) ({ frames := 0, cells := 1, slots := 4, locals := 0 } : Room)) (fun a U => a = #[.ref my, .ref mx] ∧ Z.Warmed39 U.vm ∧ U.heap = h0) (fun _ _ _ _ _ => True) (fun _ U o U' => ∃ v L, o = .returned v ∧ Q_rm_ad2 Z my mx f h0 n0 v U'.heap L ∧ FrameEnd U o U' L ({ frames := 0, cells := 1, slots := 4, locals := 0 } : Room).cells ({ frames := 0, cells := 1, slots := 4, locals := 0 } : Room).slots) := by
 refine MetFree.of_bodySF (plainFor_of_name own_pn1) hisR ?_
 intro p e s m args below meth c s₁ Bd hml0 hP hK
 obtain ⟨rfl, hZ, hh⟩ := hP
 have hx := Bd.exec
 have hby := Bd.bytes
 have hml : c.maxLocals = 9 := hml0
 have hown : s.vm.findClass "java/math/BigInteger" = some m.cls := findClass_of_methodNamed Bd.named
 have hnm := (name_of_methodNamed Bd.named Bd.method).1
 have X0 : Stand p l e ({ frames := 0, cells := 1, slots := 4, locals := 0 } : Room) s m #[.ref my, .ref mx] below meth c s₁ [] 0 0 := Stand.of_body Bd
 have e0 : s₁.heap = h0 := by rw [← hh, Bd.state]; rfl
 have N0 := Fr.nil n0
 obtain ⟨B0, hB0⟩ : ∃ B, B = (s₁.setTop (entryFrame m #[.ref my, .ref mx] 9)) := ⟨_, rfl⟩
 have st0 : own_K p e below s₁ m 0 #[rv my, rv mx, .unset, .unset, .unset, .unset, .unset, .unset, .unset] [] B0 := fun t kk0 => hB0 ▸ castTop (own_ef25_RR m my mx) kk0
 have k0 : Keep h0 h0 [] := Keep.refl _ _
 have st1 : own_K p e below s₁ m 1 #[rv my, rv mx, .unset, .unset, .unset, .unset, .unset, .unset, .unset] [.ref my] B0 := fun t kt => st0 t (by
  refine XS.aloadN X0.here hx rfl (hb hby d25_0) rfl rfl ?_
  exact kt)
 have ls2 := own_alen X0 hx hZ e0 Ay (g := (mkF m 1 #[rv my, rv mx, .unset, .unset, .unset, .unset, .unset, .unset, .unset] [.ref my])) rfl rfl (hb hby d25_1)
 have st3 := fun t kt => st1 t (ls2 t kt)
 have st4 : own_K p e below s₁ m 3 #[rv my, rv mx, .unset, .unset, .unset, .unset, .unset, .unset, .unset] [.ref mx, .int 2] B0 := fun t kt => st3 t (by
  refine XS.aloadN X0.here hx rfl (hb hby d25_2) rfl rfl ?_
  exact kt)
 have ls5 := own_alen X0 hx hZ e0 Ax (g := (mkF m 3 #[rv my, rv mx, .unset, .unset, .unset, .unset, .unset, .unset, .unset] [.ref mx, .int 2])) rfl rfl (hb hby d25_3)
 have st6 := fun t kt => st4 t (ls5 t kt)
 have hc7 : (2 : Int32) < (4 : Int32) := by decide
 have st8 : own_K p e below s₁ m 14 #[rv mx, rv my, rv my, .unset, .unset, .unset, .unset, .unset, .unset] [.ref mx] B0 := fun t kt => st6 t (by
  refine XS.icmpNo X0.here hx rfl (hb hby d25_4) rfl (tlt hc7).2.1 ?_
  refine XS.aloadN X0.here hx rfl (hb hby d25_7) rfl rfl ?_
  refine XS.astoreN X0.here hx rfl (hb hby d25_8) rfl rfl (l' := #[rv my, rv mx, rv my, .unset, .unset, .unset, .unset, .unset, .unset]) rfl ?_
  refine XS.aloadN X0.here hx rfl (hb hby d25_9) rfl rfl ?_
  refine XS.astoreN X0.here hx rfl (hb hby d25_10) rfl rfl (l' := #[rv mx, rv mx, rv my, .unset, .unset, .unset, .unset, .unset, .unset]) rfl ?_
  refine XS.aloadN X0.here hx rfl (hb hby d25_11) rfl rfl ?_
  refine XS.astoreN X0.here hx rfl (hb hby d25_12) rfl rfl (l' := #[rv mx, rv my, rv my, .unset, .unset, .unset, .unset, .unset, .unset]) rfl ?_
  refine XS.aloadN X0.here hx rfl (hb hby d25_13) rfl rfl ?_
  exact kt)
 have ls9 := own_alen X0 hx hZ e0 Ax (g := (mkF m 14 #[rv mx, rv my, rv my, .unset, .unset, .unset, .unset, .unset, .unset] [.ref mx])) rfl rfl (hb hby d25_14)
 have st10 := fun t kt => st8 t (ls9 t kt)
 have st11 : own_K p e below s₁ m 17 #[rv mx, rv my, iv 4, .unset, .unset, .unset, .unset, .unset, .unset] [.ref my] B0 := fun t kt => st10 t (by
  refine XS.istoreN X0.here hx rfl (hb hby d25_15) rfl (l' := #[rv mx, rv my, iv 4, .unset, .unset, .unset, .unset, .unset, .unset]) rfl ?_
  refine XS.aloadN X0.here hx rfl (hb hby d25_16) rfl rfl ?_
  exact kt)
 have ls12 := own_alen X0 hx hZ e0 Ay (g := (mkF m 17 #[rv mx, rv my, iv 4, .unset, .unset, .unset, .unset, .unset, .unset] [.ref my])) rfl rfl (hb hby d25_17)
 have st13 := fun t kt => st11 t (ls12 t kt)
 have st14 : own_K p e below s₁ m 20 #[rv mx, rv my, iv 4, iv 2, .unset, .unset, .unset, .unset, .unset] [.int 4] B0 := fun t kt => st13 t (by
  refine XS.istoreN X0.here hx rfl (hb hby d25_18) rfl (l' := #[rv mx, rv my, iv 4, iv 2, .unset, .unset, .unset, .unset, .unset]) rfl ?_
  refine XS.iloadN X0.here hx rfl (hb hby d25_19) rfl ?_
  exact kt)
 obtain ⟨T15, h15, c15, X15, e15, E15, A15, ls15⟩ := newP X0 hx hZ (own_w hw 82 rfl) e0 (g := (mkF m 20 #[rv mx, rv my, iv 4, iv 2, .unset, .unset, .unset, .unset, .unset] [.int 4])) rfl (hb hby d25_20) rfl (by decide) (cap := 4) (by decide) (by decide) (by decide) (by decide)
 obtain ⟨br, g15⟩ : ∃ z, z = h0.size := ⟨_, rfl⟩
 rw [← g15] at A15 ls15
 have ne_my_br : my ≠ br := Nat.ne_of_lt (Nat.lt_of_lt_of_le Ay.lt (Nat.le_of_eq g15.symm))
 have ne_mx_br : mx ≠ br := Nat.ne_of_lt (Nat.lt_of_lt_of_le Ax.lt (Nat.le_of_eq g15.symm))
 have g_br : n0 ≤ br := Nat.le_trans Z0 (Nat.le_of_eq g15.symm)
 have sz_br : h0.size ≤ br := Nat.le_trans k0.1 (Nat.le_of_eq g15.symm)
 have f16 := Ay.ext E15
 have f17 := Ax.ext E15
 have z18 := Nat.le_trans Z0 E15.1
 have k19 := k0.ext E15
 have f20 : own_Av Z h15 br .int 4 (fun _ => (.int 0)) := own_Av.new A15 (by decide) (by decide)
 have st21 := fun t kt => st14 t (ls15 t kt)
 have hc22 : ¬ ((2 : Int32) = (1 : Int32)) := by decide
 have hc23 : (0 : Int32) < (2 : Int32) := by decide
 have st24 : own_K p e below T15 m 73 #[rv mx, rv my, iv 3, iv 2, rv br, .val (.long (0 : Int64)), .second, .unset, .unset] [.int 3, .ref mx] B0 := fun t kt => st21 t (by
  refine XS.astore X15.here hx rfl (hb hby d25_22) rfl rfl (l' := #[rv mx, rv my, iv 4, iv 2, rv br, .unset, .unset, .unset, .unset]) rfl ?_
  refine XS.lconst X15.here hx rfl (hb hby d25_24) ?_
  refine XS.lstore X15.here hx rfl (hb hby d25_25) rfl (l' := #[rv mx, rv my, iv 4, iv 2, rv br, .val (.long (0 : Int64)), .second, .unset, .unset]) rfl ?_
  refine XS.iloadN X15.here hx rfl (hb hby d25_27) rfl ?_
  refine XS.iconst X15.here hx rfl (hb hby d25_28) ?_
  refine XS.icmpYes X15.here hx rfl (pc0 := 29) (pc' := 64) rfl (hb hby d25_29) rfl (feq hc22).2 (by decide) (by decide) ?_
  refine XS.iloadN X15.here hx rfl (hb hby d25_64) rfl ?_
  refine XS.ifNo X15.here hx rfl (hb hby d25_65) rfl ((if0 _ _).trans (tlt hc23).2.2.2) ?_
  refine XS.aloadN X15.here hx rfl (hb hby d25_68) rfl rfl ?_
  refine XS.iinc X15.here hx rfl (hb hby d25_69) rfl (l' := #[rv mx, rv my, iv ((4 : Int32) + (-1 : Int32)), iv 2, rv br, .val (.long (0 : Int64)), .second, .unset, .unset]) rfl ?_
  show own_At p e below T15 m 72 #[rv mx, rv my, iv ((4 : Int32) + (-1 : Int32)), iv 2, rv br, .val (.long (0 : Int64)), .second, .unset, .unset] [.ref mx] _
  rw [show ((4 : Int32) + (-1 : Int32)) = (3 : Int32) from (by decide +kernel)]
  refine XS.iloadN X15.here hx rfl (hb hby d25_72) rfl ?_
  exact kt)
 have ls25 := own_iaload X15 hx hZ e15 f17 (j := (3 : Int32)) (i := 3) (by decide) (by decide) (by decide) (v := (.int 1)) (rfl) (g := (mkF m 73 #[rv mx, rv my, iv 3, iv 2, rv br, .val (.long (0 : Int64)), .second, .unset, .unset] [.int 3, .ref mx])) rfl rfl (hb hby d25_73)
 have st26 := fun t kt => st24 t (ls25 t kt)
 have st27 : own_K p e below T15 m 84 #[rv mx, rv my, iv 3, iv 1, rv br, .val (.long (0 : Int64)), .second, .unset, .unset] [.int 1, .ref my, (.long (((1 : Int32).toInt64) &&& (4294967295 : Int64)))] B0 := fun t kt => st26 t (by
  refine XS.i2l X15.here hx rfl (hb hby d25_74) rfl ?_
  show own_At p e below T15 m 75 #[rv mx, rv my, iv 3, iv 2, rv br, .val (.long (0 : Int64)), .second, .unset, .unset] [(.long ((1 : Int32).toInt64))] _
  refine X15.ldc2Long hx hown (mvT hZ (own_w hw 108 rfl)) (g := (mkF m 75 #[rv mx, rv my, iv 3, iv 2, rv br, .val (.long (0 : Int64)), .second, .unset, .unset] [(.long ((1 : Int32).toInt64))])) rfl (hb hby d25_75) _ ?_
  refine XS.land X15.here hx rfl (hb hby d25_78) rfl ?_
  refine XS.aloadN X15.here hx rfl (hb hby d25_79) rfl rfl ?_
  refine XS.iinc X15.here hx rfl (hb hby d25_80) rfl (l' := #[rv mx, rv my, iv 3, iv ((2 : Int32) + (-1 : Int32)), rv br, .val (.long (0 : Int64)), .second, .unset, .unset]) rfl ?_
  show own_At p e below T15 m 83 #[rv mx, rv my, iv 3, iv ((2 : Int32) + (-1 : Int32)), rv br, .val (.long (0 : Int64)), .second, .unset, .unset] [.ref my, (.long (((1 : Int32).toInt64) &&& (4294967295 : Int64)))] _
  rw [show ((2 : Int32) + (-1 : Int32)) = (1 : Int32) from (by decide +kernel)]
  refine XS.iloadN X15.here hx rfl (hb hby d25_83) rfl ?_
  exact kt)
 have ls28 := own_iaload X15 hx hZ e15 f16 (j := (1 : Int32)) (i := 1) (by decide) (by decide) (by decide) (v := (.int (f 1))) (rfl) (g := (mkF m 84 #[rv mx, rv my, iv 3, iv 1, rv br, .val (.long (0 : Int64)), .second, .unset, .unset] [.int 1, .ref my, (.long (((1 : Int32).toInt64) &&& (4294967295 : Int64)))])) rfl rfl (hb hby d25_84)
 have st29 := fun t kt => st27 t (ls28 t kt)
 have st30 : own_K p e below T15 m 105 #[rv mx, rv my, iv 3, iv 1, rv br, .val (.long (own_s1 f)), .second, .unset, .unset] [(.int ((own_s1 f).toInt32)), .int 3, .ref br] B0 := fun t kt => st29 t (by
  refine XS.i2l X15.here hx rfl (hb hby d25_85) rfl ?_
  show own_At p e below T15 m 86 #[rv mx, rv my, iv 3, iv 1, rv br, .val (.long (0 : Int64)), .second, .unset, .unset] [(.long ((f 1).toInt64)), (.long (((1 : Int32).toInt64) &&& (4294967295 : Int64)))] _
  refine X15.ldc2Long hx hown (mvT hZ (own_w hw 108 rfl)) (g := (mkF m 86 #[rv mx, rv my, iv 3, iv 1, rv br, .val (.long (0 : Int64)), .second, .unset, .unset] [(.long ((f 1).toInt64)), (.long (((1 : Int32).toInt64) &&& (4294967295 : Int64)))])) rfl (hb hby d25_86) _ ?_
  refine XS.land X15.here hx rfl (hb hby d25_89) rfl ?_
  refine XS.ladd X15.here hx rfl (hb hby d25_90) rfl ?_
  refine XS.lload X15.here hx rfl (hb hby d25_91) rfl ?_
  refine XS.bipush X15.here hx rfl (hb hby d25_93) ?_
  refine XS.lushr X15.here hx rfl (hb hby d25_95) rfl ?_
  refine XS.ladd X15.here hx rfl (hb hby d25_96) rfl ?_
  show own_At p e below T15 m 97 #[rv mx, rv my, iv 3, iv 1, rv br, .val (.long (0 : Int64)), .second, .unset, .unset] [(.long (((((1 : Int32).toInt64) &&& (4294967295 : Int64)) + (((f 1).toInt64) &&& (4294967295 : Int64))) + (((0 : Int64).toUInt64 >>> ((32 : Int32) &&& 0x3f).toInt64.toUInt64).toInt64)))] _
  rw [show (((((1 : Int32).toInt64) &&& (4294967295 : Int64)) + (((f 1).toInt64) &&& (4294967295 : Int64))) + (((0 : Int64).toUInt64 >>> ((32 : Int32) &&& 0x3f).toInt64.toUInt64).toInt64)) = (own_s1 f) from (rfl)]
  refine XS.lstore X15.here hx rfl (hb hby d25_97) rfl (l' := #[rv mx, rv my, iv 3, iv 1, rv br, .val (.long (own_s1 f)), .second, .unset, .unset]) rfl ?_
  refine XS.aload X15.here hx rfl (hb hby d25_99) rfl rfl ?_
  refine XS.iloadN X15.here hx rfl (hb hby d25_101) rfl ?_
  refine XS.lload X15.here hx rfl (hb hby d25_102) rfl ?_
  refine XS.l2i X15.here hx rfl (hb hby d25_104) rfl ?_
  exact kt)
 obtain ⟨T31, h31, X31, e31, W31, B31, ls31⟩ := own_iastore X15 hx hZ e15 f20 (j := (3 : Int32)) (i := 3) (by decide) (by decide) (by decide) (g := (mkF m 105 #[rv mx, rv my, iv 3, iv 1, rv br, .val (.long (own_s1 f)), .second, .unset, .unset] [(.int ((own_s1 f).toInt32)), .int 3, .ref br])) rfl rfl (hb hby d25_105)
 have N31 := Fr.snoc X31 N0 g_br
 have f32 := f16.other W31 ne_my_br
 have f33 := f17.other W31 ne_mx_br
 have z34 := Nat.le_trans z18 (Keep.of_wr W31).1
 have k35 := k19.wr W31 (Or.inr sz_br)
 have f36 := B31
 have st37 := fun t kt => st30 t (ls31 t kt)
 have hc38 : (0 : Int32) < (1 : Int32) := by decide
 have st39 : own_K p e below T31 m 73 #[rv mx, rv my, iv 2, iv 1, rv br, .val (.long (own_s1 f)), .second, .unset, .unset] [.int 2, .ref mx] B0 := fun t kt => st37 t (by
  refine XS.goto X31.here hx rfl (pc0 := 106) (pc' := 64) rfl (hb hby d25_106) (by decide) (by decide) ?_
  refine XS.iloadN X31.here hx rfl (hb hby d25_64) rfl ?_
  refine XS.ifNo X31.here hx rfl (hb hby d25_65) rfl ((if0 _ _).trans (tlt hc38).2.2.2) ?_
  refine XS.aloadN X31.here hx rfl (hb hby d25_68) rfl rfl ?_
  refine XS.iinc X31.here hx rfl (hb hby d25_69) rfl (l' := #[rv mx, rv my, iv ((3 : Int32) + (-1 : Int32)), iv 1, rv br, .val (.long (own_s1 f)), .second, .unset, .unset]) rfl ?_
  show own_At p e below T31 m 72 #[rv mx, rv my, iv ((3 : Int32) + (-1 : Int32)), iv 1, rv br, .val (.long (own_s1 f)), .second, .unset, .unset] [.ref mx] _
  rw [show ((3 : Int32) + (-1 : Int32)) = (2 : Int32) from (by decide +kernel)]
  refine XS.iloadN X31.here hx rfl (hb hby d25_72) rfl ?_
  exact kt)
 have ls40 := own_iaload X31 hx hZ e31 f33 (j := (2 : Int32)) (i := 2) (by decide) (by decide) (by decide) (v := (.int 0)) (rfl) (g := (mkF m 73 #[rv mx, rv my, iv 2, iv 1, rv br, .val (.long (own_s1 f)), .second, .unset, .unset] [.int 2, .ref mx])) rfl rfl (hb hby d25_73)
 have st41 := fun t kt => st39 t (ls40 t kt)
 have st42 : own_K p e below T31 m 84 #[rv mx, rv my, iv 2, iv 0, rv br, .val (.long (own_s1 f)), .second, .unset, .unset] [.int 0, .ref my, (.long (((0 : Int32).toInt64) &&& (4294967295 : Int64)))] B0 := fun t kt => st41 t (by
  refine XS.i2l X31.here hx rfl (hb hby d25_74) rfl ?_
  show own_At p e below T31 m 75 #[rv mx, rv my, iv 2, iv 1, rv br, .val (.long (own_s1 f)), .second, .unset, .unset] [(.long ((0 : Int32).toInt64))] _
  refine X31.ldc2Long hx hown (mvT hZ (own_w hw 108 rfl)) (g := (mkF m 75 #[rv mx, rv my, iv 2, iv 1, rv br, .val (.long (own_s1 f)), .second, .unset, .unset] [(.long ((0 : Int32).toInt64))])) rfl (hb hby d25_75) _ ?_
  refine XS.land X31.here hx rfl (hb hby d25_78) rfl ?_
  refine XS.aloadN X31.here hx rfl (hb hby d25_79) rfl rfl ?_
  refine XS.iinc X31.here hx rfl (hb hby d25_80) rfl (l' := #[rv mx, rv my, iv 2, iv ((1 : Int32) + (-1 : Int32)), rv br, .val (.long (own_s1 f)), .second, .unset, .unset]) rfl ?_
  show own_At p e below T31 m 83 #[rv mx, rv my, iv 2, iv ((1 : Int32) + (-1 : Int32)), rv br, .val (.long (own_s1 f)), .second, .unset, .unset] [.ref my, (.long (((0 : Int32).toInt64) &&& (4294967295 : Int64)))] _
  rw [show ((1 : Int32) + (-1 : Int32)) = (0 : Int32) from (by decide +kernel)]
  refine XS.iloadN X31.here hx rfl (hb hby d25_83) rfl ?_
  exact kt)
 have ls43 := own_iaload X31 hx hZ e31 f32 (j := (0 : Int32)) (i := 0) (by decide) (by decide) (by decide) (v := (.int (f 0))) (rfl) (g := (mkF m 84 #[rv mx, rv my, iv 2, iv 0, rv br, .val (.long (own_s1 f)), .second, .unset, .unset] [.int 0, .ref my, (.long (((0 : Int32).toInt64) &&& (4294967295 : Int64)))])) rfl rfl (hb hby d25_84)
 have st44 := fun t kt => st42 t (ls43 t kt)
 have st45 : own_K p e below T31 m 105 #[rv mx, rv my, iv 2, iv 0, rv br, .val (.long (own_s2 f)), .second, .unset, .unset] [(.int ((own_s2 f).toInt32)), .int 2, .ref br] B0 := fun t kt => st44 t (by
  refine XS.i2l X31.here hx rfl (hb hby d25_85) rfl ?_
  show own_At p e below T31 m 86 #[rv mx, rv my, iv 2, iv 0, rv br, .val (.long (own_s1 f)), .second, .unset, .unset] [(.long ((f 0).toInt64)), (.long (((0 : Int32).toInt64) &&& (4294967295 : Int64)))] _
  refine X31.ldc2Long hx hown (mvT hZ (own_w hw 108 rfl)) (g := (mkF m 86 #[rv mx, rv my, iv 2, iv 0, rv br, .val (.long (own_s1 f)), .second, .unset, .unset] [(.long ((f 0).toInt64)), (.long (((0 : Int32).toInt64) &&& (4294967295 : Int64)))])) rfl (hb hby d25_86) _ ?_
  refine XS.land X31.here hx rfl (hb hby d25_89) rfl ?_
  refine XS.ladd X31.here hx rfl (hb hby d25_90) rfl ?_
  refine XS.lload X31.here hx rfl (hb hby d25_91) rfl ?_
  refine XS.bipush X31.here hx rfl (hb hby d25_93) ?_
  refine XS.lushr X31.here hx rfl (hb hby d25_95) rfl ?_
  refine XS.ladd X31.here hx rfl (hb hby d25_96) rfl ?_
  show own_At p e below T31 m 97 #[rv mx, rv my, iv 2, iv 0, rv br, .val (.long (own_s1 f)), .second, .unset, .unset] [(.long (((((0 : Int32).toInt64) &&& (4294967295 : Int64)) + (((f 0).toInt64) &&& (4294967295 : Int64))) + (((own_s1 f).toUInt64 >>> ((32 : Int32) &&& 0x3f).toInt64.toUInt64).toInt64)))] _
  rw [show (((((0 : Int32).toInt64) &&& (4294967295 : Int64)) + (((f 0).toInt64) &&& (4294967295 : Int64))) + (((own_s1 f).toUInt64 >>> ((32 : Int32) &&& 0x3f).toInt64.toUInt64).toInt64)) = (own_s2 f) from (rfl)]
  refine XS.lstore X31.here hx rfl (hb hby d25_97) rfl (l' := #[rv mx, rv my, iv 2, iv 0, rv br, .val (.long (own_s2 f)), .second, .unset, .unset]) rfl ?_
  refine XS.aload X31.here hx rfl (hb hby d25_99) rfl rfl ?_
  refine XS.iloadN X31.here hx rfl (hb hby d25_101) rfl ?_
  refine XS.lload X31.here hx rfl (hb hby d25_102) rfl ?_
  refine XS.l2i X31.here hx rfl (hb hby d25_104) rfl ?_
  exact kt)
 obtain ⟨T46, h46, X46, e46, W46, B46, ls46⟩ := own_iastore X31 hx hZ e31 f36 (j := (2 : Int32)) (i := 2) (by decide) (by decide) (by decide) (g := (mkF m 105 #[rv mx, rv my, iv 2, iv 0, rv br, .val (.long (own_s2 f)), .second, .unset, .unset] [(.int ((own_s2 f).toInt32)), .int 2, .ref br])) rfl rfl (hb hby d25_105)
 have N46 := Fr.snoc X46 N31 g_br
 have f48 := f33.other W46 ne_mx_br
 have z49 := Nat.le_trans z34 (Keep.of_wr W46).1
 have k50 := k35.wr W46 (Or.inr sz_br)
 have f51 := B46
 have st52 := fun t kt => st45 t (ls46 t kt)
 have hc53 : ¬ ((0 : Int32) < (0 : Int32)) := by decide
 have st54 : own_K p e below T46 m 116 #[rv mx, rv my, iv 2, iv 0, rv br, .val (.long (own_s2 f)), .second, .unset, .unset] [(.int (lcmpW (own_sh (own_s2 f)) (0 : Int64)))] B0 := fun t kt => st52 t (by
  refine XS.goto X46.here hx rfl (pc0 := 106) (pc' := 64) rfl (hb hby d25_106) (by decide) (by decide) ?_
  refine XS.iloadN X46.here hx rfl (hb hby d25_64) rfl ?_
  refine XS.ifYes X46.here hx rfl (pc0 := 65) (pc' := 109) rfl (hb hby d25_65) rfl ((if0 _ _).trans (flt hc53).2.2.2) (by decide) (by decide) ?_
  refine XS.lload X46.here hx rfl (hb hby d25_109) rfl ?_
  refine XS.bipush X46.here hx rfl (hb hby d25_111) ?_
  refine XS.lushr X46.here hx rfl (hb hby d25_113) rfl ?_
  show own_At p e below T46 m 114 #[rv mx, rv my, iv 2, iv 0, rv br, .val (.long (own_s2 f)), .second, .unset, .unset] [(.long (((own_s2 f).toUInt64 >>> ((32 : Int32) &&& 0x3f).toInt64.toUInt64).toInt64))] _
  rw [show (((own_s2 f).toUInt64 >>> ((32 : Int32) &&& 0x3f).toInt64.toUInt64).toInt64) = (own_sh (own_s2 f)) from (rfl)]
  refine XS.lconst X46.here hx rfl (hb hby d25_114) ?_
  refine XS.lcmp X46.here hx rfl (hb hby d25_115) rfl ?_
  exact kt)
 by_cases q1 : (own_sh (own_s2 f)) = (0 : Int64)
 ·have hc55 : (0 : Int32) < (2 : Int32) := by decide
  have hc56 : (0 : Int32) = (0 : Int32) := by decide
  have hc57 : (0 : Int32) < (2 : Int32) := by decide
  have st58 : own_K p e below T46 m 173 #[rv mx, rv my, iv 1, iv 0, rv br, .val (.long (own_s2 f)), .second, iv 0, .unset] [.int 1, .ref mx, .int 1, .ref br] B0 := fun t kt => st54 t (by
   refine XS.ifYes X46.here hx rfl (pc0 := 116) (pc' := 123) rfl (hb hby d25_116) rfl ((if0 _ _).trans (teq ((lw_eq _ _).mpr q1)).1) (by decide) (by decide) ?_
   refine XS.iconst X46.here hx rfl (hb hby d25_123) ?_
   refine XS.istore X46.here hx rfl (hb hby d25_124) rfl (l' := #[rv mx, rv my, iv 2, iv 0, rv br, .val (.long (own_s2 f)), .second, iv 0, .unset]) rfl ?_
   refine XS.iloadN X46.here hx rfl (hb hby d25_126) rfl ?_
   refine XS.ifNo X46.here hx rfl (hb hby d25_127) rfl ((if0 _ _).trans (tlt hc55).2.2.2) ?_
   refine XS.iload X46.here hx rfl (hb hby d25_130) rfl ?_
   refine XS.ifYes X46.here hx rfl (pc0 := 132) (pc' := 161) rfl (hb hby d25_132) rfl ((if0 _ _).trans (teq hc56).1) (by decide) (by decide) ?_
   refine XS.iloadN X46.here hx rfl (hb hby d25_161) rfl ?_
   refine XS.ifNo X46.here hx rfl (hb hby d25_162) rfl ((if0 _ _).trans (tlt hc57).2.2.2) ?_
   refine XS.aload X46.here hx rfl (hb hby d25_165) rfl rfl ?_
   refine XS.iinc X46.here hx rfl (hb hby d25_167) rfl (l' := #[rv mx, rv my, iv ((2 : Int32) + (-1 : Int32)), iv 0, rv br, .val (.long (own_s2 f)), .second, iv 0, .unset]) rfl ?_
   show own_At p e below T46 m 170 #[rv mx, rv my, iv ((2 : Int32) + (-1 : Int32)), iv 0, rv br, .val (.long (own_s2 f)), .second, iv 0, .unset] [.ref br] _
   rw [show ((2 : Int32) + (-1 : Int32)) = (1 : Int32) from (by decide +kernel)]
   refine XS.iloadN X46.here hx rfl (hb hby d25_170) rfl ?_
   refine XS.aloadN X46.here hx rfl (hb hby d25_171) rfl rfl ?_
   refine XS.iloadN X46.here hx rfl (hb hby d25_172) rfl ?_
   exact kt)
  have ls59 := own_iaload X46 hx hZ e46 f48 (j := (1 : Int32)) (i := 1) (by decide) (by decide) (by decide) (v := (.int (-1 : Int32))) (rfl) (g := (mkF m 173 #[rv mx, rv my, iv 1, iv 0, rv br, .val (.long (own_s2 f)), .second, iv 0, .unset] [.int 1, .ref mx, .int 1, .ref br])) rfl rfl (hb hby d25_173)
  have st60 := fun t kt => st58 t (ls59 t kt)
  obtain ⟨T61, h61, X61, e61, W61, B61, ls61⟩ := own_iastore X46 hx hZ e46 f51 (j := (1 : Int32)) (i := 1) (by decide) (by decide) (by decide) (g := (mkF m 174 #[rv mx, rv my, iv 1, iv 0, rv br, .val (.long (own_s2 f)), .second, iv 0, .unset] [.int (-1 : Int32), .int 1, .ref br])) rfl rfl (hb hby d25_174)
  have N61 := Fr.snoc X61 N46 g_br
  have f63 := f48.other W61 ne_mx_br
  have z64 := Nat.le_trans z49 (Keep.of_wr W61).1
  have k65 := k50.wr W61 (Or.inr sz_br)
  have f66 := B61
  have st67 := fun t kt => st60 t (ls61 t kt)
  have hc68 : (0 : Int32) < (1 : Int32) := by decide
  have st69 : own_K p e below T61 m 173 #[rv mx, rv my, iv 0, iv 0, rv br, .val (.long (own_s2 f)), .second, iv 0, .unset] [.int 0, .ref mx, .int 0, .ref br] B0 := fun t kt => st67 t (by
   refine XS.goto X61.here hx rfl (pc0 := 175) (pc' := 161) rfl (hb hby d25_175) (by decide) (by decide) ?_
   refine XS.iloadN X61.here hx rfl (hb hby d25_161) rfl ?_
   refine XS.ifNo X61.here hx rfl (hb hby d25_162) rfl ((if0 _ _).trans (tlt hc68).2.2.2) ?_
   refine XS.aload X61.here hx rfl (hb hby d25_165) rfl rfl ?_
   refine XS.iinc X61.here hx rfl (hb hby d25_167) rfl (l' := #[rv mx, rv my, iv ((1 : Int32) + (-1 : Int32)), iv 0, rv br, .val (.long (own_s2 f)), .second, iv 0, .unset]) rfl ?_
   show own_At p e below T61 m 170 #[rv mx, rv my, iv ((1 : Int32) + (-1 : Int32)), iv 0, rv br, .val (.long (own_s2 f)), .second, iv 0, .unset] [.ref br] _
   rw [show ((1 : Int32) + (-1 : Int32)) = (0 : Int32) from (by decide +kernel)]
   refine XS.iloadN X61.here hx rfl (hb hby d25_170) rfl ?_
   refine XS.aloadN X61.here hx rfl (hb hby d25_171) rfl rfl ?_
   refine XS.iloadN X61.here hx rfl (hb hby d25_172) rfl ?_
   exact kt)
  have ls70 := own_iaload X61 hx hZ e61 f63 (j := (0 : Int32)) (i := 0) (by decide) (by decide) (by decide) (v := (.int 1073741823)) (rfl) (g := (mkF m 173 #[rv mx, rv my, iv 0, iv 0, rv br, .val (.long (own_s2 f)), .second, iv 0, .unset] [.int 0, .ref mx, .int 0, .ref br])) rfl rfl (hb hby d25_173)
  have st71 := fun t kt => st69 t (ls70 t kt)
  obtain ⟨T72, h72, X72, e72, W72, B72, ls72⟩ := own_iastore X61 hx hZ e61 f66 (j := (0 : Int32)) (i := 0) (by decide) (by decide) (by decide) (g := (mkF m 174 #[rv mx, rv my, iv 0, iv 0, rv br, .val (.long (own_s2 f)), .second, iv 0, .unset] [.int 1073741823, .int 0, .ref br])) rfl rfl (hb hby d25_174)
  have N72 := Fr.snoc X72 N61 g_br
  have z75 := Nat.le_trans z64 (Keep.of_wr W72).1
  have k76 := k65.wr W72 (Or.inr sz_br)
  have f77 := B72
  have st78 := fun t kt => st71 t (ls72 t kt)
  have hc79 : ¬ ((0 : Int32) < (0 : Int32)) := by decide
  have hc80 : (0 : Int32) = (0 : Int32) := by decide
  have st81 : own_K p e below T72 m 214 #[rv mx, rv my, iv 0, iv 0, rv br, .val (.long (own_s2 f)), .second, iv 0, .unset] [.ref br] B0 := fun t kt => st78 t (by
   refine XS.goto X72.here hx rfl (pc0 := 175) (pc' := 161) rfl (hb hby d25_175) (by decide) (by decide) ?_
   refine XS.iloadN X72.here hx rfl (hb hby d25_161) rfl ?_
   refine XS.ifYes X72.here hx rfl (pc0 := 162) (pc' := 178) rfl (hb hby d25_162) rfl ((if0 _ _).trans (flt hc79).2.2.2) (by decide) (by decide) ?_
   refine XS.iload X72.here hx rfl (hb hby d25_178) rfl ?_
   refine XS.ifYes X72.here hx rfl (pc0 := 180) (pc' := 212) rfl (hb hby d25_180) rfl ((if0 _ _).trans (teq hc80).1) (by decide) (by decide) ?_
   refine XS.aload X72.here hx rfl (hb hby d25_212) rfl rfl ?_
   exact kt)
  obtain ⟨fs, hr, hrun, hended, hW, hsame⟩ := X72.leave (v := (some (.ref br))) (fun h => by rw [Bd.returns] at h; cases h)
  subst hB0
  refine ⟨_, _, st81 _ ?_, hrun, hended, _, _, rfl, ?_, ⟨_, rfl⟩, hW, hsame.mono (by decide) (by decide)⟩
  ·exact retOut X72 hx Bd.returns rfl (Or.inr (Or.inr (Or.inr (Or.inr ⟨rfl, rfl, rfl⟩)))) (hb hby d25_214) hr
  ·show Q_rm_ad2 Z my mx f h0 n0 _ T72.heap _
   rw [e72]
   exact ⟨_, rfl, N72, k76, g_br, sz_br, f77.congr (g := fun q => .int (own_ad2 f q)) (fun q hq => by
   have z : q = 0 ∨ q = 1 ∨ q = 2 ∨ q = 3 := by omega
   unfold own_ad2
   rw [if_pos q1]
   rcases z with rfl | rfl | rfl | rfl <;> rfl)⟩
 ·have hc82 : (0 : Int32) < (2 : Int32) := by decide
  have hc83 : ¬ ((1 : Int32) = (0 : Int32)) := by decide
  have st84 : own_K p e below T46 m 143 #[rv mx, rv my, iv 1, iv 0, rv br, .val (.long (own_s2 f)), .second, iv 1, .unset] [.int 1, .ref mx, .int 1, .ref br] B0 := fun t kt => st54 t (by
   refine XS.ifNo X46.here hx rfl (hb hby d25_116) rfl ((if0 _ _).trans (feq (fun q => q1 ((lw_eq _ _).mp q))).1) ?_
   refine XS.iconst X46.here hx rfl (hb hby d25_119) ?_
   refine XS.goto X46.here hx rfl (pc0 := 120) (pc' := 124) rfl (hb hby d25_120) (by decide) (by decide) ?_
   refine XS.istore X46.here hx rfl (hb hby d25_124) rfl (l' := #[rv mx, rv my, iv 2, iv 0, rv br, .val (.long (own_s2 f)), .second, iv 1, .unset]) rfl ?_
   refine XS.iloadN X46.here hx rfl (hb hby d25_126) rfl ?_
   refine XS.ifNo X46.here hx rfl (hb hby d25_127) rfl ((if0 _ _).trans (tlt hc82).2.2.2) ?_
   refine XS.iload X46.here hx rfl (hb hby d25_130) rfl ?_
   refine XS.ifNo X46.here hx rfl (hb hby d25_132) rfl ((if0 _ _).trans (feq hc83).1) ?_
   refine XS.aload X46.here hx rfl (hb hby d25_135) rfl rfl ?_
   refine XS.iinc X46.here hx rfl (hb hby d25_137) rfl (l' := #[rv mx, rv my, iv ((2 : Int32) + (-1 : Int32)), iv 0, rv br, .val (.long (own_s2 f)), .second, iv 1, .unset]) rfl ?_
   show own_At p e below T46 m 140 #[rv mx, rv my, iv ((2 : Int32) + (-1 : Int32)), iv 0, rv br, .val (.long (own_s2 f)), .second, iv 1, .unset] [.ref br] _
   rw [show ((2 : Int32) + (-1 : Int32)) = (1 : Int32) from (by decide +kernel)]
   refine XS.iloadN X46.here hx rfl (hb hby d25_140) rfl ?_
   refine XS.aloadN X46.here hx rfl (hb hby d25_141) rfl rfl ?_
   refine XS.iloadN X46.here hx rfl (hb hby d25_142) rfl ?_
   exact kt)
  have ls85 := own_iaload X46 hx hZ e46 f48 (j := (1 : Int32)) (i := 1) (by decide) (by decide) (by decide) (v := (.int (-1 : Int32))) (rfl) (g := (mkF m 143 #[rv mx, rv my, iv 1, iv 0, rv br, .val (.long (own_s2 f)), .second, iv 1, .unset] [.int 1, .ref mx, .int 1, .ref br])) rfl rfl (hb hby d25_143)
  have st86 := fun t kt => st84 t (ls85 t kt)
  have st87 : own_K p e below T46 m 147 #[rv mx, rv my, iv 1, iv 0, rv br, .val (.long (own_s2 f)), .second, iv 1, .unset] [.int 0, .int 1, .ref br, .int 0] B0 := fun t kt => st86 t (by
   refine XS.iconst X46.here hx rfl (hb hby d25_144) ?_
   refine XS.iadd X46.here hx rfl (hb hby d25_145) rfl ?_
   show own_At p e below T46 m 146 #[rv mx, rv my, iv 1, iv 0, rv br, .val (.long (own_s2 f)), .second, iv 1, .unset] [(.int ((-1 : Int32) + (1 : Int32))), .int 1, .ref br] _
   rw [show ((-1 : Int32) + (1 : Int32)) = (0 : Int32) from (by decide +kernel)]
   show own_At p e below T46 m 146 #[rv mx, rv my, iv 1, iv 0, rv br, .val (.long (own_s2 f)), .second, iv 1, .unset] [.int 0, .int 1, .ref br] _
   jvm_step X46.here [X46.here.top, hx, (hb hby d25_146), Value.category]
   exact kt)
  obtain ⟨T88, h88, X88, e88, W88, B88, ls88⟩ := own_iastore X46 hx hZ e46 f51 (j := (1 : Int32)) (i := 1) (by decide) (by decide) (by decide) (g := (mkF m 147 #[rv mx, rv my, iv 1, iv 0, rv br, .val (.long (own_s2 f)), .second, iv 1, .unset] [.int 0, .int 1, .ref br, .int 0])) rfl rfl (hb hby d25_147)
  have N88 := Fr.snoc X88 N46 g_br
  have f90 := f48.other W88 ne_mx_br
  have z91 := Nat.le_trans z49 (Keep.of_wr W88).1
  have k92 := k50.wr W88 (Or.inr sz_br)
  have f93 := B88
  have st94 := fun t kt => st87 t (ls88 t kt)
  have hc95 : (0 : Int32) = (0 : Int32) := by decide
  have hc96 : (0 : Int32) < (1 : Int32) := by decide
  have hc97 : ¬ ((1 : Int32) = (0 : Int32)) := by decide
  have st98 : own_K p e below T88 m 143 #[rv mx, rv my, iv 0, iv 0, rv br, .val (.long (own_s2 f)), .second, iv 1, .unset] [.int 0, .ref mx, .int 0, .ref br] B0 := fun t kt => st94 t (by
   refine XS.ifNo X88.here hx rfl (hb hby d25_148) rfl ((if0 _ _).trans (teq hc95).2) ?_
   refine XS.iconst X88.here hx rfl (hb hby d25_151) ?_
   refine XS.goto X88.here hx rfl (pc0 := 152) (pc' := 156) rfl (hb hby d25_152) (by decide) (by decide) ?_
   refine XS.istore X88.here hx rfl (hb hby d25_156) rfl (l' := #[rv mx, rv my, iv 1, iv 0, rv br, .val (.long (own_s2 f)), .second, iv 1, .unset]) rfl ?_
   refine XS.goto X88.here hx rfl (pc0 := 158) (pc' := 126) rfl (hb hby d25_158) (by decide) (by decide) ?_
   refine XS.iloadN X88.here hx rfl (hb hby d25_126) rfl ?_
   refine XS.ifNo X88.here hx rfl (hb hby d25_127) rfl ((if0 _ _).trans (tlt hc96).2.2.2) ?_
   refine XS.iload X88.here hx rfl (hb hby d25_130) rfl ?_
   refine XS.ifNo X88.here hx rfl (hb hby d25_132) rfl ((if0 _ _).trans (feq hc97).1) ?_
   refine XS.aload X88.here hx rfl (hb hby d25_135) rfl rfl ?_
   refine XS.iinc X88.here hx rfl (hb hby d25_137) rfl (l' := #[rv mx, rv my, iv ((1 : Int32) + (-1 : Int32)), iv 0, rv br, .val (.long (own_s2 f)), .second, iv 1, .unset]) rfl ?_
   show own_At p e below T88 m 140 #[rv mx, rv my, iv ((1 : Int32) + (-1 : Int32)), iv 0, rv br, .val (.long (own_s2 f)), .second, iv 1, .unset] [.ref br] _
   rw [show ((1 : Int32) + (-1 : Int32)) = (0 : Int32) from (by decide +kernel)]
   refine XS.iloadN X88.here hx rfl (hb hby d25_140) rfl ?_
   refine XS.aloadN X88.here hx rfl (hb hby d25_141) rfl rfl ?_
   refine XS.iloadN X88.here hx rfl (hb hby d25_142) rfl ?_
   exact kt)
  have ls99 := own_iaload X88 hx hZ e88 f90 (j := (0 : Int32)) (i := 0) (by decide) (by decide) (by decide) (v := (.int 1073741823)) (rfl) (g := (mkF m 143 #[rv mx, rv my, iv 0, iv 0, rv br, .val (.long (own_s2 f)), .second, iv 1, .unset] [.int 0, .ref mx, .int 0, .ref br])) rfl rfl (hb hby d25_143)
  have st100 := fun t kt => st98 t (ls99 t kt)
  have st101 : own_K p e below T88 m 147 #[rv mx, rv my, iv 0, iv 0, rv br, .val (.long (own_s2 f)), .second, iv 1, .unset] [.int 1073741824, .int 0, .ref br, .int 1073741824] B0 := fun t kt => st100 t (by
   refine XS.iconst X88.here hx rfl (hb hby d25_144) ?_
   refine XS.iadd X88.here hx rfl (hb hby d25_145) rfl ?_
   show own_At p e below T88 m 146 #[rv mx, rv my, iv 0, iv 0, rv br, .val (.long (own_s2 f)), .second, iv 1, .unset] [(.int ((1073741823 : Int32) + (1 : Int32))), .int 0, .ref br] _
   rw [show ((1073741823 : Int32) + (1 : Int32)) = (1073741824 : Int32) from (by decide +kernel)]
   show own_At p e below T88 m 146 #[rv mx, rv my, iv 0, iv 0, rv br, .val (.long (own_s2 f)), .second, iv 1, .unset] [.int 1073741824, .int 0, .ref br] _
   jvm_step X88.here [X88.here.top, hx, (hb hby d25_146), Value.category]
   exact kt)
  obtain ⟨T102, h102, X102, e102, W102, B102, ls102⟩ := own_iastore X88 hx hZ e88 f93 (j := (0 : Int32)) (i := 0) (by decide) (by decide) (by decide) (g := (mkF m 147 #[rv mx, rv my, iv 0, iv 0, rv br, .val (.long (own_s2 f)), .second, iv 1, .unset] [.int 1073741824, .int 0, .ref br, .int 1073741824])) rfl rfl (hb hby d25_147)
  have N102 := Fr.snoc X102 N88 g_br
  have z105 := Nat.le_trans z91 (Keep.of_wr W102).1
  have k106 := k92.wr W102 (Or.inr sz_br)
  have f107 := B102
  have st108 := fun t kt => st101 t (ls102 t kt)
  have hc109 : ¬ ((1073741824 : Int32) = (0 : Int32)) := by decide
  have hc110 : ¬ ((0 : Int32) < (0 : Int32)) := by decide
  have hc111 : ¬ ((0 : Int32) < (0 : Int32)) := by decide
  have hc112 : (0 : Int32) = (0 : Int32) := by decide
  have st113 : own_K p e below T102 m 214 #[rv mx, rv my, iv 0, iv 0, rv br, .val (.long (own_s2 f)), .second, iv 0, .unset] [.ref br] B0 := fun t kt => st108 t (by
   refine XS.ifYes X102.here hx rfl (pc0 := 148) (pc' := 155) rfl (hb hby d25_148) rfl ((if0 _ _).trans (feq hc109).2) (by decide) (by decide) ?_
   refine XS.iconst X102.here hx rfl (hb hby d25_155) ?_
   refine XS.istore X102.here hx rfl (hb hby d25_156) rfl (l' := #[rv mx, rv my, iv 0, iv 0, rv br, .val (.long (own_s2 f)), .second, iv 0, .unset]) rfl ?_
   refine XS.goto X102.here hx rfl (pc0 := 158) (pc' := 126) rfl (hb hby d25_158) (by decide) (by decide) ?_
   refine XS.iloadN X102.here hx rfl (hb hby d25_126) rfl ?_
   refine XS.ifYes X102.here hx rfl (pc0 := 127) (pc' := 161) rfl (hb hby d25_127) rfl ((if0 _ _).trans (flt hc110).2.2.2) (by decide) (by decide) ?_
   refine XS.iloadN X102.here hx rfl (hb hby d25_161) rfl ?_
   refine XS.ifYes X102.here hx rfl (pc0 := 162) (pc' := 178) rfl (hb hby d25_162) rfl ((if0 _ _).trans (flt hc111).2.2.2) (by decide) (by decide) ?_
   refine XS.iload X102.here hx rfl (hb hby d25_178) rfl ?_
   refine XS.ifYes X102.here hx rfl (pc0 := 180) (pc' := 212) rfl (hb hby d25_180) rfl ((if0 _ _).trans (teq hc112).1) (by decide) (by decide) ?_
   refine XS.aload X102.here hx rfl (hb hby d25_212) rfl rfl ?_
   exact kt)
  obtain ⟨fs, hr, hrun, hended, hW, hsame⟩ := X102.leave (v := (some (.ref br))) (fun h => by rw [Bd.returns] at h; cases h)
  subst hB0
  refine ⟨_, _, st113 _ ?_, hrun, hended, _, _, rfl, ?_, ⟨_, rfl⟩, hW, hsame.mono (by decide) (by decide)⟩
  ·exact retOut X102 hx Bd.returns rfl (Or.inr (Or.inr (Or.inr (Or.inr ⟨rfl, rfl, rfl⟩)))) (hb hby d25_214) hr
  ·show Q_rm_ad2 Z my mx f h0 n0 _ T102.heap _
   rw [e102]
   exact ⟨_, rfl, N102, k106, g_br, sz_br, f107.congr (g := fun q => .int (own_ad2 f q)) (fun q hq => by
   have z : q = 0 ∨ q = 1 ∨ q = 2 ∨ q = 3 := by omega
   unfold own_ad2
   rw [if_neg q1]
   rcases z with rfl | rfl | rfl | rfl <;> rfl)⟩
def Q_rm_sb1 (Z : State) (mx : Addr) (my : Addr) (f : Nat → Int32) (h0 : Heap) (n0 : Nat) (v : Option Value) (h : Heap) (L : List Loc) : Prop := ∃ rq, v = some (.ref rq) ∧ Fr n0 L ∧ Keep h0 h [] ∧ n0 ≤ rq ∧ own_Av Z h rq .int 4 (fun q => .int (own_sb1 f q))
set_option maxRecDepth 65536 in
set_option maxHeartbeats 40000000 in
theorem rm_sb1 (l : Launch) (Z : State) (a0 : Array Value) (hw : ∀ d ∈ tables_1, d.before a0 Z = true) (ws : List Jvm.Cond) (mx : Addr) (my : Addr) (f : Nat → Int32) (h0 : Heap) (n0 : Nat) (Z0 : n0 ≤ h0.size) (Ax : own_Av Z h0 mx .int 4 (fun q => .int ((own_w4 1073741823 (-1) 0 1) q))) (Ay : own_Av Z h0 my .int 1 (fun q => .int (f q))) :
  MetFree l (⟨"java/math/BigInteger", "subtract", "([I[I)[I"⟩ : MethodName) (head1 (Jvm.Cond.code (⟨"java/math/BigInteger", "subtract", "([I[I)[I"⟩ : MethodName) jdk_2097_method_39_code 8 (some (.array .int)) :: ws) ({ frames := 0, cells := 1, slots := 4, locals := 0 } : Room)) (fun a U => a = #[.ref mx, .ref my] ∧ Z.Warmed39 U.vm ∧ U.heap = h0) (fun _ _ _ _ _ => True) (fun _ U o U' => ∃ v L, o = .returned v ∧ Q_rm_sb1 Z mx my f h0 n0 v U'.heap L ∧ FrameEnd U o U' L ({ frames := 0, cells := 1, slots := 4, locals := 0 } : Room).cells ({ frames := 0, cells := 1, slots := 4, locals := 0 } : Room).slots) := by
 refine MetFree.of_bodySF (plainFor_of_name own_pn1) hisR ?_
 intro p e s m args below meth c s₁ Bd hml0 hP hK
 obtain ⟨rfl, hZ, hh⟩ := hP
 have hx := Bd.exec
 have hby := Bd.bytes
 have hml : c.maxLocals = 8 := hml0
 have hown : s.vm.findClass "java/math/BigInteger" = some m.cls := findClass_of_methodNamed Bd.named
 have hnm := (name_of_methodNamed Bd.named Bd.method).1
 have X0 : Stand p l e ({ frames := 0, cells := 1, slots := 4, locals := 0 } : Room) s m #[.ref mx, .ref my] below meth c s₁ [] 0 0 := Stand.of_body Bd
 have e0 : s₁.heap = h0 := by rw [← hh, Bd.state]; rfl
 have N0 := Fr.nil n0
 obtain ⟨B0, hB0⟩ : ∃ B, B = (s₁.setTop (entryFrame m #[.ref mx, .ref my] 8)) := ⟨_, rfl⟩
 have st0 : own_K p e below s₁ m 0 #[rv mx, rv my, .unset, .unset, .unset, .unset, .unset, .unset] [] B0 := fun t kk0 => hB0 ▸ castTop (own_ef28_RR m mx my) kk0
 have k0 : Keep h0 h0 [] := Keep.refl _ _
 have st1 : own_K p e below s₁ m 1 #[rv mx, rv my, .unset, .unset, .unset, .unset, .unset, .unset] [.ref mx] B0 := fun t kt => st0 t (by
  refine XS.aloadN X0.here hx rfl (hb hby d28_0) rfl rfl ?_
  exact kt)
 have ls2 := own_alen X0 hx hZ e0 Ax (g := (mkF m 1 #[rv mx, rv my, .unset, .unset, .unset, .unset, .unset, .unset] [.ref mx])) rfl rfl (hb hby d28_1)
 have st3 := fun t kt => st1 t (ls2 t kt)
 have st4 : own_K p e below s₁ m 4 #[rv mx, rv my, iv 4, .unset, .unset, .unset, .unset, .unset] [.int 4] B0 := fun t kt => st3 t (by
  refine XS.istoreN X0.here hx rfl (hb hby d28_2) rfl (l' := #[rv mx, rv my, iv 4, .unset, .unset, .unset, .unset, .unset]) rfl ?_
  refine XS.iloadN X0.here hx rfl (hb hby d28_3) rfl ?_
  exact kt)
 obtain ⟨T5, h5, c5, X5, e5, E5, A5, ls5⟩ := newP X0 hx hZ (own_w hw 82 rfl) e0 (g := (mkF m 4 #[rv mx, rv my, iv 4, .unset, .unset, .unset, .unset, .unset] [.int 4])) rfl (hb hby d28_4) rfl (by decide) (cap := 4) (by decide) (by decide) (by decide) (by decide)
 obtain ⟨br, g5⟩ : ∃ z, z = h0.size := ⟨_, rfl⟩
 rw [← g5] at A5 ls5
 have ne_mx_br : mx ≠ br := Nat.ne_of_lt (Nat.lt_of_lt_of_le Ax.lt (Nat.le_of_eq g5.symm))
 have g_br : n0 ≤ br := Nat.le_trans Z0 (Nat.le_of_eq g5.symm)
 have sz_br : h0.size ≤ br := Nat.le_trans k0.1 (Nat.le_of_eq g5.symm)
 have f6 := Ax.ext E5
 have f7 := Ay.ext E5
 have z8 := Nat.le_trans Z0 E5.1
 have k9 := k0.ext E5
 have f10 : own_Av Z h5 br .int 4 (fun _ => (.int 0)) := own_Av.new A5 (by decide) (by decide)
 have st11 := fun t kt => st4 t (ls5 t kt)
 have st12 : own_K p e below T5 m 8 #[rv mx, rv my, iv 4, rv br, .unset, .unset, .unset, .unset] [.ref my] B0 := fun t kt => st11 t (by
  refine XS.astoreN X5.here hx rfl (hb hby d28_6) rfl rfl (l' := #[rv mx, rv my, iv 4, rv br, .unset, .unset, .unset, .unset]) rfl ?_
  refine XS.aloadN X5.here hx rfl (hb hby d28_7) rfl rfl ?_
  exact kt)
 have ls13 := own_alen X5 hx hZ e5 f7 (g := (mkF m 8 #[rv mx, rv my, iv 4, rv br, .unset, .unset, .unset, .unset] [.ref my])) rfl rfl (hb hby d28_8)
 have st14 := fun t kt => st12 t (ls13 t kt)
 have hc15 : (0 : Int32) < (1 : Int32) := by decide
 have st16 : own_K p e below T5 m 24 #[rv mx, rv my, iv 3, rv br, iv 1, .val (.long (0 : Int64)), .second, .unset] [.int 3, .ref mx] B0 := fun t kt => st14 t (by
  refine XS.istore X5.here hx rfl (hb hby d28_9) rfl (l' := #[rv mx, rv my, iv 4, rv br, iv 1, .unset, .unset, .unset]) rfl ?_
  refine XS.lconst X5.here hx rfl (hb hby d28_11) ?_
  refine XS.lstore X5.here hx rfl (hb hby d28_12) rfl (l' := #[rv mx, rv my, iv 4, rv br, iv 1, .val (.long (0 : Int64)), .second, .unset]) rfl ?_
  refine XS.iload X5.here hx rfl (hb hby d28_14) rfl ?_
  refine XS.ifNo X5.here hx rfl (hb hby d28_16) rfl ((if0 _ _).trans (tlt hc15).2.2.2) ?_
  refine XS.aloadN X5.here hx rfl (hb hby d28_19) rfl rfl ?_
  refine XS.iinc X5.here hx rfl (hb hby d28_20) rfl (l' := #[rv mx, rv my, iv ((4 : Int32) + (-1 : Int32)), rv br, iv 1, .val (.long (0 : Int64)), .second, .unset]) rfl ?_
  show own_At p e below T5 m 23 #[rv mx, rv my, iv ((4 : Int32) + (-1 : Int32)), rv br, iv 1, .val (.long (0 : Int64)), .second, .unset] [.ref mx] _
  rw [show ((4 : Int32) + (-1 : Int32)) = (3 : Int32) from (by decide +kernel)]
  refine XS.iloadN X5.here hx rfl (hb hby d28_23) rfl ?_
  exact kt)
 have ls17 := own_iaload X5 hx hZ e5 f6 (j := (3 : Int32)) (i := 3) (by decide) (by decide) (by decide) (v := (.int 1)) (rfl) (g := (mkF m 24 #[rv mx, rv my, iv 3, rv br, iv 1, .val (.long (0 : Int64)), .second, .unset] [.int 3, .ref mx])) rfl rfl (hb hby d28_24)
 have st18 := fun t kt => st16 t (ls17 t kt)
 have st19 : own_K p e below T5 m 36 #[rv mx, rv my, iv 3, rv br, iv 0, .val (.long (0 : Int64)), .second, .unset] [.int 0, .ref my, (.long (((1 : Int32).toInt64) &&& (4294967295 : Int64)))] B0 := fun t kt => st18 t (by
  refine XS.i2l X5.here hx rfl (hb hby d28_25) rfl ?_
  show own_At p e below T5 m 26 #[rv mx, rv my, iv 3, rv br, iv 1, .val (.long (0 : Int64)), .second, .unset] [(.long ((1 : Int32).toInt64))] _
  refine X5.ldc2Long hx hown (mvT hZ (own_w hw 108 rfl)) (g := (mkF m 26 #[rv mx, rv my, iv 3, rv br, iv 1, .val (.long (0 : Int64)), .second, .unset] [(.long ((1 : Int32).toInt64))])) rfl (hb hby d28_26) _ ?_
  refine XS.land X5.here hx rfl (hb hby d28_29) rfl ?_
  refine XS.aloadN X5.here hx rfl (hb hby d28_30) rfl rfl ?_
  refine XS.iinc X5.here hx rfl (hb hby d28_31) rfl (l' := #[rv mx, rv my, iv 3, rv br, iv ((1 : Int32) + (-1 : Int32)), .val (.long (0 : Int64)), .second, .unset]) rfl ?_
  show own_At p e below T5 m 34 #[rv mx, rv my, iv 3, rv br, iv ((1 : Int32) + (-1 : Int32)), .val (.long (0 : Int64)), .second, .unset] [.ref my, (.long (((1 : Int32).toInt64) &&& (4294967295 : Int64)))] _
  rw [show ((1 : Int32) + (-1 : Int32)) = (0 : Int32) from (by decide +kernel)]
  refine XS.iload X5.here hx rfl (hb hby d28_34) rfl ?_
  exact kt)
 have ls20 := own_iaload X5 hx hZ e5 f7 (j := (0 : Int32)) (i := 0) (by decide) (by decide) (by decide) (v := (.int (f 0))) (rfl) (g := (mkF m 36 #[rv mx, rv my, iv 3, rv br, iv 0, .val (.long (0 : Int64)), .second, .unset] [.int 0, .ref my, (.long (((1 : Int32).toInt64) &&& (4294967295 : Int64)))])) rfl rfl (hb hby d28_36)
 have st21 := fun t kt => st19 t (ls20 t kt)
 have st22 : own_K p e below T5 m 56 #[rv mx, rv my, iv 3, rv br, iv 0, .val (.long (own_e1 (f 0))), .second, .unset] [(.int ((own_e1 (f 0)).toInt32)), .int 3, .ref br] B0 := fun t kt => st21 t (by
  refine XS.i2l X5.here hx rfl (hb hby d28_37) rfl ?_
  show own_At p e below T5 m 38 #[rv mx, rv my, iv 3, rv br, iv 0, .val (.long (0 : Int64)), .second, .unset] [(.long ((f 0).toInt64)), (.long (((1 : Int32).toInt64) &&& (4294967295 : Int64)))] _
  refine X5.ldc2Long hx hown (mvT hZ (own_w hw 108 rfl)) (g := (mkF m 38 #[rv mx, rv my, iv 3, rv br, iv 0, .val (.long (0 : Int64)), .second, .unset] [(.long ((f 0).toInt64)), (.long (((1 : Int32).toInt64) &&& (4294967295 : Int64)))])) rfl (hb hby d28_38) _ ?_
  refine XS.land X5.here hx rfl (hb hby d28_41) rfl ?_
  refine XS.lsub X5.here hx rfl (hb hby d28_42) rfl ?_
  refine XS.lload X5.here hx rfl (hb hby d28_43) rfl ?_
  refine XS.bipush X5.here hx rfl (hb hby d28_45) ?_
  refine XS.lshr X5.here hx rfl (hb hby d28_47) rfl ?_
  refine XS.ladd X5.here hx rfl (hb hby d28_48) rfl ?_
  show own_At p e below T5 m 49 #[rv mx, rv my, iv 3, rv br, iv 0, .val (.long (0 : Int64)), .second, .unset] [(.long (((((1 : Int32).toInt64) &&& (4294967295 : Int64)) - (((f 0).toInt64) &&& (4294967295 : Int64))) + ((0 : Int64) >>> ((32 : Int32) &&& 0x3f).toInt64)))] _
  rw [show (((((1 : Int32).toInt64) &&& (4294967295 : Int64)) - (((f 0).toInt64) &&& (4294967295 : Int64))) + ((0 : Int64) >>> ((32 : Int32) &&& 0x3f).toInt64)) = (own_e1 (f 0)) from (rfl)]
  refine XS.lstore X5.here hx rfl (hb hby d28_49) rfl (l' := #[rv mx, rv my, iv 3, rv br, iv 0, .val (.long (own_e1 (f 0))), .second, .unset]) rfl ?_
  refine XS.aloadN X5.here hx rfl (hb hby d28_51) rfl rfl ?_
  refine XS.iloadN X5.here hx rfl (hb hby d28_52) rfl ?_
  refine XS.lload X5.here hx rfl (hb hby d28_53) rfl ?_
  refine XS.l2i X5.here hx rfl (hb hby d28_55) rfl ?_
  exact kt)
 obtain ⟨T23, h23, X23, e23, W23, B23, ls23⟩ := own_iastore X5 hx hZ e5 f10 (j := (3 : Int32)) (i := 3) (by decide) (by decide) (by decide) (g := (mkF m 56 #[rv mx, rv my, iv 3, rv br, iv 0, .val (.long (own_e1 (f 0))), .second, .unset] [(.int ((own_e1 (f 0)).toInt32)), .int 3, .ref br])) rfl rfl (hb hby d28_56)
 have N23 := Fr.snoc X23 N0 g_br
 have f24 := f6.other W23 ne_mx_br
 have z26 := Nat.le_trans z8 (Keep.of_wr W23).1
 have k27 := k9.wr W23 (Or.inr sz_br)
 have f28 := B23
 have st29 := fun t kt => st22 t (ls23 t kt)
 have hc30 : ¬ ((0 : Int32) < (0 : Int32)) := by decide
 have st31 : own_K p e below T23 m 67 #[rv mx, rv my, iv 3, rv br, iv 0, .val (.long (own_e1 (f 0))), .second, .unset] [(.int (lcmpW (own_sr (own_e1 (f 0))) (0 : Int64)))] B0 := fun t kt => st29 t (by
  refine XS.goto X23.here hx rfl (pc0 := 57) (pc' := 14) rfl (hb hby d28_57) (by decide) (by decide) ?_
  refine XS.iload X23.here hx rfl (hb hby d28_14) rfl ?_
  refine XS.ifYes X23.here hx rfl (pc0 := 16) (pc' := 60) rfl (hb hby d28_16) rfl ((if0 _ _).trans (flt hc30).2.2.2) (by decide) (by decide) ?_
  refine XS.lload X23.here hx rfl (hb hby d28_60) rfl ?_
  refine XS.bipush X23.here hx rfl (hb hby d28_62) ?_
  refine XS.lshr X23.here hx rfl (hb hby d28_64) rfl ?_
  show own_At p e below T23 m 65 #[rv mx, rv my, iv 3, rv br, iv 0, .val (.long (own_e1 (f 0))), .second, .unset] [(.long ((own_e1 (f 0)) >>> ((32 : Int32) &&& 0x3f).toInt64))] _
  rw [show ((own_e1 (f 0)) >>> ((32 : Int32) &&& 0x3f).toInt64) = (own_sr (own_e1 (f 0))) from (rfl)]
  refine XS.lconst X23.here hx rfl (hb hby d28_65) ?_
  refine XS.lcmp X23.here hx rfl (hb hby d28_66) rfl ?_
  exact kt)
 by_cases q1 : (own_sr (own_e1 (f 0))) = (0 : Int64)
 ·have hc32 : (0 : Int32) < (3 : Int32) := by decide
  have hc33 : (0 : Int32) = (0 : Int32) := by decide
  have hc34 : (0 : Int32) < (3 : Int32) := by decide
  have st35 : own_K p e below T23 m 123 #[rv mx, rv my, iv 2, rv br, iv 0, .val (.long (own_e1 (f 0))), .second, iv 0] [.int 2, .ref mx, .int 2, .ref br] B0 := fun t kt => st31 t (by
   refine XS.ifYes X23.here hx rfl (pc0 := 67) (pc' := 74) rfl (hb hby d28_67) rfl ((if0 _ _).trans (teq ((lw_eq _ _).mpr q1)).1) (by decide) (by decide) ?_
   refine XS.iconst X23.here hx rfl (hb hby d28_74) ?_
   refine XS.istore X23.here hx rfl (hb hby d28_75) rfl (l' := #[rv mx, rv my, iv 3, rv br, iv 0, .val (.long (own_e1 (f 0))), .second, iv 0]) rfl ?_
   refine XS.iloadN X23.here hx rfl (hb hby d28_77) rfl ?_
   refine XS.ifNo X23.here hx rfl (hb hby d28_78) rfl ((if0 _ _).trans (tlt hc32).2.2.2) ?_
   refine XS.iload X23.here hx rfl (hb hby d28_81) rfl ?_
   refine XS.ifYes X23.here hx rfl (pc0 := 83) (pc' := 112) rfl (hb hby d28_83) rfl ((if0 _ _).trans (teq hc33).1) (by decide) (by decide) ?_
   refine XS.iloadN X23.here hx rfl (hb hby d28_112) rfl ?_
   refine XS.ifNo X23.here hx rfl (hb hby d28_113) rfl ((if0 _ _).trans (tlt hc34).2.2.2) ?_
   refine XS.aloadN X23.here hx rfl (hb hby d28_116) rfl rfl ?_
   refine XS.iinc X23.here hx rfl (hb hby d28_117) rfl (l' := #[rv mx, rv my, iv ((3 : Int32) + (-1 : Int32)), rv br, iv 0, .val (.long (own_e1 (f 0))), .second, iv 0]) rfl ?_
   show own_At p e below T23 m 120 #[rv mx, rv my, iv ((3 : Int32) + (-1 : Int32)), rv br, iv 0, .val (.long (own_e1 (f 0))), .second, iv 0] [.ref br] _
   rw [show ((3 : Int32) + (-1 : Int32)) = (2 : Int32) from (by decide +kernel)]
   refine XS.iloadN X23.here hx rfl (hb hby d28_120) rfl ?_
   refine XS.aloadN X23.here hx rfl (hb hby d28_121) rfl rfl ?_
   refine XS.iloadN X23.here hx rfl (hb hby d28_122) rfl ?_
   exact kt)
  have ls36 := own_iaload X23 hx hZ e23 f24 (j := (2 : Int32)) (i := 2) (by decide) (by decide) (by decide) (v := (.int 0)) (rfl) (g := (mkF m 123 #[rv mx, rv my, iv 2, rv br, iv 0, .val (.long (own_e1 (f 0))), .second, iv 0] [.int 2, .ref mx, .int 2, .ref br])) rfl rfl (hb hby d28_123)
  have st37 := fun t kt => st35 t (ls36 t kt)
  obtain ⟨T38, h38, X38, e38, W38, B38, ls38⟩ := own_iastore X23 hx hZ e23 f28 (j := (2 : Int32)) (i := 2) (by decide) (by decide) (by decide) (g := (mkF m 124 #[rv mx, rv my, iv 2, rv br, iv 0, .val (.long (own_e1 (f 0))), .second, iv 0] [.int 0, .int 2, .ref br])) rfl rfl (hb hby d28_124)
  have N38 := Fr.snoc X38 N23 g_br
  have f39 := f24.other W38 ne_mx_br
  have z41 := Nat.le_trans z26 (Keep.of_wr W38).1
  have k42 := k27.wr W38 (Or.inr sz_br)
  have f43 := B38
  have st44 := fun t kt => st37 t (ls38 t kt)
  have hc45 : (0 : Int32) < (2 : Int32) := by decide
  have st46 : own_K p e below T38 m 123 #[rv mx, rv my, iv 1, rv br, iv 0, .val (.long (own_e1 (f 0))), .second, iv 0] [.int 1, .ref mx, .int 1, .ref br] B0 := fun t kt => st44 t (by
   refine XS.goto X38.here hx rfl (pc0 := 125) (pc' := 112) rfl (hb hby d28_125) (by decide) (by decide) ?_
   refine XS.iloadN X38.here hx rfl (hb hby d28_112) rfl ?_
   refine XS.ifNo X38.here hx rfl (hb hby d28_113) rfl ((if0 _ _).trans (tlt hc45).2.2.2) ?_
   refine XS.aloadN X38.here hx rfl (hb hby d28_116) rfl rfl ?_
   refine XS.iinc X38.here hx rfl (hb hby d28_117) rfl (l' := #[rv mx, rv my, iv ((2 : Int32) + (-1 : Int32)), rv br, iv 0, .val (.long (own_e1 (f 0))), .second, iv 0]) rfl ?_
   show own_At p e below T38 m 120 #[rv mx, rv my, iv ((2 : Int32) + (-1 : Int32)), rv br, iv 0, .val (.long (own_e1 (f 0))), .second, iv 0] [.ref br] _
   rw [show ((2 : Int32) + (-1 : Int32)) = (1 : Int32) from (by decide +kernel)]
   refine XS.iloadN X38.here hx rfl (hb hby d28_120) rfl ?_
   refine XS.aloadN X38.here hx rfl (hb hby d28_121) rfl rfl ?_
   refine XS.iloadN X38.here hx rfl (hb hby d28_122) rfl ?_
   exact kt)
  have ls47 := own_iaload X38 hx hZ e38 f39 (j := (1 : Int32)) (i := 1) (by decide) (by decide) (by decide) (v := (.int (-1 : Int32))) (rfl) (g := (mkF m 123 #[rv mx, rv my, iv 1, rv br, iv 0, .val (.long (own_e1 (f 0))), .second, iv 0] [.int 1, .ref mx, .int 1, .ref br])) rfl rfl (hb hby d28_123)
  have st48 := fun t kt => st46 t (ls47 t kt)
  obtain ⟨T49, h49, X49, e49, W49, B49, ls49⟩ := own_iastore X38 hx hZ e38 f43 (j := (1 : Int32)) (i := 1) (by decide) (by decide) (by decide) (g := (mkF m 124 #[rv mx, rv my, iv 1, rv br, iv 0, .val (.long (own_e1 (f 0))), .second, iv 0] [.int (-1 : Int32), .int 1, .ref br])) rfl rfl (hb hby d28_124)
  have N49 := Fr.snoc X49 N38 g_br
  have f50 := f39.other W49 ne_mx_br
  have z52 := Nat.le_trans z41 (Keep.of_wr W49).1
  have k53 := k42.wr W49 (Or.inr sz_br)
  have f54 := B49
  have st55 := fun t kt => st48 t (ls49 t kt)
  have hc56 : (0 : Int32) < (1 : Int32) := by decide
  have st57 : own_K p e below T49 m 123 #[rv mx, rv my, iv 0, rv br, iv 0, .val (.long (own_e1 (f 0))), .second, iv 0] [.int 0, .ref mx, .int 0, .ref br] B0 := fun t kt => st55 t (by
   refine XS.goto X49.here hx rfl (pc0 := 125) (pc' := 112) rfl (hb hby d28_125) (by decide) (by decide) ?_
   refine XS.iloadN X49.here hx rfl (hb hby d28_112) rfl ?_
   refine XS.ifNo X49.here hx rfl (hb hby d28_113) rfl ((if0 _ _).trans (tlt hc56).2.2.2) ?_
   refine XS.aloadN X49.here hx rfl (hb hby d28_116) rfl rfl ?_
   refine XS.iinc X49.here hx rfl (hb hby d28_117) rfl (l' := #[rv mx, rv my, iv ((1 : Int32) + (-1 : Int32)), rv br, iv 0, .val (.long (own_e1 (f 0))), .second, iv 0]) rfl ?_
   show own_At p e below T49 m 120 #[rv mx, rv my, iv ((1 : Int32) + (-1 : Int32)), rv br, iv 0, .val (.long (own_e1 (f 0))), .second, iv 0] [.ref br] _
   rw [show ((1 : Int32) + (-1 : Int32)) = (0 : Int32) from (by decide +kernel)]
   refine XS.iloadN X49.here hx rfl (hb hby d28_120) rfl ?_
   refine XS.aloadN X49.here hx rfl (hb hby d28_121) rfl rfl ?_
   refine XS.iloadN X49.here hx rfl (hb hby d28_122) rfl ?_
   exact kt)
  have ls58 := own_iaload X49 hx hZ e49 f50 (j := (0 : Int32)) (i := 0) (by decide) (by decide) (by decide) (v := (.int 1073741823)) (rfl) (g := (mkF m 123 #[rv mx, rv my, iv 0, rv br, iv 0, .val (.long (own_e1 (f 0))), .second, iv 0] [.int 0, .ref mx, .int 0, .ref br])) rfl rfl (hb hby d28_123)
  have st59 := fun t kt => st57 t (ls58 t kt)
  obtain ⟨T60, h60, X60, e60, W60, B60, ls60⟩ := own_iastore X49 hx hZ e49 f54 (j := (0 : Int32)) (i := 0) (by decide) (by decide) (by decide) (g := (mkF m 124 #[rv mx, rv my, iv 0, rv br, iv 0, .val (.long (own_e1 (f 0))), .second, iv 0] [.int 1073741823, .int 0, .ref br])) rfl rfl (hb hby d28_124)
  have N60 := Fr.snoc X60 N49 g_br
  have z63 := Nat.le_trans z52 (Keep.of_wr W60).1
  have k64 := k53.wr W60 (Or.inr sz_br)
  have f65 := B60
  have st66 := fun t kt => st59 t (ls60 t kt)
  have hc67 : ¬ ((0 : Int32) < (0 : Int32)) := by decide
  have st68 : own_K p e below T60 m 129 #[rv mx, rv my, iv 0, rv br, iv 0, .val (.long (own_e1 (f 0))), .second, iv 0] [.ref br] B0 := fun t kt => st66 t (by
   refine XS.goto X60.here hx rfl (pc0 := 125) (pc' := 112) rfl (hb hby d28_125) (by decide) (by decide) ?_
   refine XS.iloadN X60.here hx rfl (hb hby d28_112) rfl ?_
   refine XS.ifYes X60.here hx rfl (pc0 := 113) (pc' := 128) rfl (hb hby d28_113) rfl ((if0 _ _).trans (flt hc67).2.2.2) (by decide) (by decide) ?_
   refine XS.aloadN X60.here hx rfl (hb hby d28_128) rfl rfl ?_
   exact kt)
  obtain ⟨fs, hr, hrun, hended, hW, hsame⟩ := X60.leave (v := (some (.ref br))) (fun h => by rw [Bd.returns] at h; cases h)
  subst hB0
  refine ⟨_, _, st68 _ ?_, hrun, hended, _, _, rfl, ?_, ⟨_, rfl⟩, hW, hsame.mono (by decide) (by decide)⟩
  ·exact retOut X60 hx Bd.returns rfl (Or.inr (Or.inr (Or.inr (Or.inr ⟨rfl, rfl, rfl⟩)))) (hb hby d28_129) hr
  ·show Q_rm_sb1 Z mx my f h0 n0 _ T60.heap _
   rw [e60]
   exact ⟨_, rfl, N60, k64, g_br, f65.congr (g := fun q => .int (own_sb1 f q)) (fun q hq => by
   have z : q = 0 ∨ q = 1 ∨ q = 2 ∨ q = 3 := by omega
   unfold own_sb1
   rw [if_pos q1]
   rcases z with rfl | rfl | rfl | rfl <;> rfl)⟩
 ·have hc69 : (0 : Int32) < (3 : Int32) := by decide
  have hc70 : ¬ ((1 : Int32) = (0 : Int32)) := by decide
  have st71 : own_K p e below T23 m 93 #[rv mx, rv my, iv 2, rv br, iv 0, .val (.long (own_e1 (f 0))), .second, iv 1] [.int 2, .ref mx, .int 2, .ref br] B0 := fun t kt => st31 t (by
   refine XS.ifNo X23.here hx rfl (hb hby d28_67) rfl ((if0 _ _).trans (feq (fun q => q1 ((lw_eq _ _).mp q))).1) ?_
   refine XS.iconst X23.here hx rfl (hb hby d28_70) ?_
   refine XS.goto X23.here hx rfl (pc0 := 71) (pc' := 75) rfl (hb hby d28_71) (by decide) (by decide) ?_
   refine XS.istore X23.here hx rfl (hb hby d28_75) rfl (l' := #[rv mx, rv my, iv 3, rv br, iv 0, .val (.long (own_e1 (f 0))), .second, iv 1]) rfl ?_
   refine XS.iloadN X23.here hx rfl (hb hby d28_77) rfl ?_
   refine XS.ifNo X23.here hx rfl (hb hby d28_78) rfl ((if0 _ _).trans (tlt hc69).2.2.2) ?_
   refine XS.iload X23.here hx rfl (hb hby d28_81) rfl ?_
   refine XS.ifNo X23.here hx rfl (hb hby d28_83) rfl ((if0 _ _).trans (feq hc70).1) ?_
   refine XS.aloadN X23.here hx rfl (hb hby d28_86) rfl rfl ?_
   refine XS.iinc X23.here hx rfl (hb hby d28_87) rfl (l' := #[rv mx, rv my, iv ((3 : Int32) + (-1 : Int32)), rv br, iv 0, .val (.long (own_e1 (f 0))), .second, iv 1]) rfl ?_
   show own_At p e below T23 m 90 #[rv mx, rv my, iv ((3 : Int32) + (-1 : Int32)), rv br, iv 0, .val (.long (own_e1 (f 0))), .second, iv 1] [.ref br] _
   rw [show ((3 : Int32) + (-1 : Int32)) = (2 : Int32) from (by decide +kernel)]
   refine XS.iloadN X23.here hx rfl (hb hby d28_90) rfl ?_
   refine XS.aloadN X23.here hx rfl (hb hby d28_91) rfl rfl ?_
   refine XS.iloadN X23.here hx rfl (hb hby d28_92) rfl ?_
   exact kt)
  have ls72 := own_iaload X23 hx hZ e23 f24 (j := (2 : Int32)) (i := 2) (by decide) (by decide) (by decide) (v := (.int 0)) (rfl) (g := (mkF m 93 #[rv mx, rv my, iv 2, rv br, iv 0, .val (.long (own_e1 (f 0))), .second, iv 1] [.int 2, .ref mx, .int 2, .ref br])) rfl rfl (hb hby d28_93)
  have st73 := fun t kt => st71 t (ls72 t kt)
  have st74 : own_K p e below T23 m 97 #[rv mx, rv my, iv 2, rv br, iv 0, .val (.long (own_e1 (f 0))), .second, iv 1] [.int (-1 : Int32), .int 2, .ref br, .int (-1 : Int32)] B0 := fun t kt => st73 t (by
   refine XS.iconst X23.here hx rfl (hb hby d28_94) ?_
   refine XS.isub X23.here hx rfl (hb hby d28_95) rfl ?_
   show own_At p e below T23 m 96 #[rv mx, rv my, iv 2, rv br, iv 0, .val (.long (own_e1 (f 0))), .second, iv 1] [(.int ((0 : Int32) - (1 : Int32))), .int 2, .ref br] _
   rw [show ((0 : Int32) - (1 : Int32)) = (-1 : Int32) from (by decide +kernel)]
   show own_At p e below T23 m 96 #[rv mx, rv my, iv 2, rv br, iv 0, .val (.long (own_e1 (f 0))), .second, iv 1] [.int (-1 : Int32), .int 2, .ref br] _
   jvm_step X23.here [X23.here.top, hx, (hb hby d28_96), Value.category]
   exact kt)
  obtain ⟨T75, h75, X75, e75, W75, B75, ls75⟩ := own_iastore X23 hx hZ e23 f28 (j := (2 : Int32)) (i := 2) (by decide) (by decide) (by decide) (g := (mkF m 97 #[rv mx, rv my, iv 2, rv br, iv 0, .val (.long (own_e1 (f 0))), .second, iv 1] [.int (-1 : Int32), .int 2, .ref br, .int (-1 : Int32)])) rfl rfl (hb hby d28_97)
  have N75 := Fr.snoc X75 N23 g_br
  have f76 := f24.other W75 ne_mx_br
  have z78 := Nat.le_trans z26 (Keep.of_wr W75).1
  have k79 := k27.wr W75 (Or.inr sz_br)
  have f80 := B75
  have st81 := fun t kt => st74 t (ls75 t kt)
  have hc82 : (-1 : Int32) = (-1 : Int32) := by decide
  have hc83 : (0 : Int32) < (2 : Int32) := by decide
  have hc84 : ¬ ((1 : Int32) = (0 : Int32)) := by decide
  have st85 : own_K p e below T75 m 93 #[rv mx, rv my, iv 1, rv br, iv 0, .val (.long (own_e1 (f 0))), .second, iv 1] [.int 1, .ref mx, .int 1, .ref br] B0 := fun t kt => st81 t (by
   refine XS.iconst X75.here hx rfl (hb hby d28_98) ?_
   refine XS.icmpNo X75.here hx rfl (hb hby d28_99) rfl (teq hc82).2 ?_
   refine XS.iconst X75.here hx rfl (hb hby d28_102) ?_
   refine XS.goto X75.here hx rfl (pc0 := 103) (pc' := 107) rfl (hb hby d28_103) (by decide) (by decide) ?_
   refine XS.istore X75.here hx rfl (hb hby d28_107) rfl (l' := #[rv mx, rv my, iv 2, rv br, iv 0, .val (.long (own_e1 (f 0))), .second, iv 1]) rfl ?_
   refine XS.goto X75.here hx rfl (pc0 := 109) (pc' := 77) rfl (hb hby d28_109) (by decide) (by decide) ?_
   refine XS.iloadN X75.here hx rfl (hb hby d28_77) rfl ?_
   refine XS.ifNo X75.here hx rfl (hb hby d28_78) rfl ((if0 _ _).trans (tlt hc83).2.2.2) ?_
   refine XS.iload X75.here hx rfl (hb hby d28_81) rfl ?_
   refine XS.ifNo X75.here hx rfl (hb hby d28_83) rfl ((if0 _ _).trans (feq hc84).1) ?_
   refine XS.aloadN X75.here hx rfl (hb hby d28_86) rfl rfl ?_
   refine XS.iinc X75.here hx rfl (hb hby d28_87) rfl (l' := #[rv mx, rv my, iv ((2 : Int32) + (-1 : Int32)), rv br, iv 0, .val (.long (own_e1 (f 0))), .second, iv 1]) rfl ?_
   show own_At p e below T75 m 90 #[rv mx, rv my, iv ((2 : Int32) + (-1 : Int32)), rv br, iv 0, .val (.long (own_e1 (f 0))), .second, iv 1] [.ref br] _
   rw [show ((2 : Int32) + (-1 : Int32)) = (1 : Int32) from (by decide +kernel)]
   refine XS.iloadN X75.here hx rfl (hb hby d28_90) rfl ?_
   refine XS.aloadN X75.here hx rfl (hb hby d28_91) rfl rfl ?_
   refine XS.iloadN X75.here hx rfl (hb hby d28_92) rfl ?_
   exact kt)
  have ls86 := own_iaload X75 hx hZ e75 f76 (j := (1 : Int32)) (i := 1) (by decide) (by decide) (by decide) (v := (.int (-1 : Int32))) (rfl) (g := (mkF m 93 #[rv mx, rv my, iv 1, rv br, iv 0, .val (.long (own_e1 (f 0))), .second, iv 1] [.int 1, .ref mx, .int 1, .ref br])) rfl rfl (hb hby d28_93)
  have st87 := fun t kt => st85 t (ls86 t kt)
  have st88 : own_K p e below T75 m 97 #[rv mx, rv my, iv 1, rv br, iv 0, .val (.long (own_e1 (f 0))), .second, iv 1] [.int (-2 : Int32), .int 1, .ref br, .int (-2 : Int32)] B0 := fun t kt => st87 t (by
   refine XS.iconst X75.here hx rfl (hb hby d28_94) ?_
   refine XS.isub X75.here hx rfl (hb hby d28_95) rfl ?_
   show own_At p e below T75 m 96 #[rv mx, rv my, iv 1, rv br, iv 0, .val (.long (own_e1 (f 0))), .second, iv 1] [(.int ((-1 : Int32) - (1 : Int32))), .int 1, .ref br] _
   rw [show ((-1 : Int32) - (1 : Int32)) = (-2 : Int32) from (by decide +kernel)]
   show own_At p e below T75 m 96 #[rv mx, rv my, iv 1, rv br, iv 0, .val (.long (own_e1 (f 0))), .second, iv 1] [.int (-2 : Int32), .int 1, .ref br] _
   jvm_step X75.here [X75.here.top, hx, (hb hby d28_96), Value.category]
   exact kt)
  obtain ⟨T89, h89, X89, e89, W89, B89, ls89⟩ := own_iastore X75 hx hZ e75 f80 (j := (1 : Int32)) (i := 1) (by decide) (by decide) (by decide) (g := (mkF m 97 #[rv mx, rv my, iv 1, rv br, iv 0, .val (.long (own_e1 (f 0))), .second, iv 1] [.int (-2 : Int32), .int 1, .ref br, .int (-2 : Int32)])) rfl rfl (hb hby d28_97)
  have N89 := Fr.snoc X89 N75 g_br
  have f90 := f76.other W89 ne_mx_br
  have z92 := Nat.le_trans z78 (Keep.of_wr W89).1
  have k93 := k79.wr W89 (Or.inr sz_br)
  have f94 := B89
  have st95 := fun t kt => st88 t (ls89 t kt)
  have hc96 : ¬ ((-2 : Int32) = (-1 : Int32)) := by decide
  have hc97 : (0 : Int32) < (1 : Int32) := by decide
  have hc98 : (0 : Int32) = (0 : Int32) := by decide
  have hc99 : (0 : Int32) < (1 : Int32) := by decide
  have st100 : own_K p e below T89 m 123 #[rv mx, rv my, iv 0, rv br, iv 0, .val (.long (own_e1 (f 0))), .second, iv 0] [.int 0, .ref mx, .int 0, .ref br] B0 := fun t kt => st95 t (by
   refine XS.iconst X89.here hx rfl (hb hby d28_98) ?_
   refine XS.icmpYes X89.here hx rfl (pc0 := 99) (pc' := 106) rfl (hb hby d28_99) rfl (feq hc96).2 (by decide) (by decide) ?_
   refine XS.iconst X89.here hx rfl (hb hby d28_106) ?_
   refine XS.istore X89.here hx rfl (hb hby d28_107) rfl (l' := #[rv mx, rv my, iv 1, rv br, iv 0, .val (.long (own_e1 (f 0))), .second, iv 0]) rfl ?_
   refine XS.goto X89.here hx rfl (pc0 := 109) (pc' := 77) rfl (hb hby d28_109) (by decide) (by decide) ?_
   refine XS.iloadN X89.here hx rfl (hb hby d28_77) rfl ?_
   refine XS.ifNo X89.here hx rfl (hb hby d28_78) rfl ((if0 _ _).trans (tlt hc97).2.2.2) ?_
   refine XS.iload X89.here hx rfl (hb hby d28_81) rfl ?_
   refine XS.ifYes X89.here hx rfl (pc0 := 83) (pc' := 112) rfl (hb hby d28_83) rfl ((if0 _ _).trans (teq hc98).1) (by decide) (by decide) ?_
   refine XS.iloadN X89.here hx rfl (hb hby d28_112) rfl ?_
   refine XS.ifNo X89.here hx rfl (hb hby d28_113) rfl ((if0 _ _).trans (tlt hc99).2.2.2) ?_
   refine XS.aloadN X89.here hx rfl (hb hby d28_116) rfl rfl ?_
   refine XS.iinc X89.here hx rfl (hb hby d28_117) rfl (l' := #[rv mx, rv my, iv ((1 : Int32) + (-1 : Int32)), rv br, iv 0, .val (.long (own_e1 (f 0))), .second, iv 0]) rfl ?_
   show own_At p e below T89 m 120 #[rv mx, rv my, iv ((1 : Int32) + (-1 : Int32)), rv br, iv 0, .val (.long (own_e1 (f 0))), .second, iv 0] [.ref br] _
   rw [show ((1 : Int32) + (-1 : Int32)) = (0 : Int32) from (by decide +kernel)]
   refine XS.iloadN X89.here hx rfl (hb hby d28_120) rfl ?_
   refine XS.aloadN X89.here hx rfl (hb hby d28_121) rfl rfl ?_
   refine XS.iloadN X89.here hx rfl (hb hby d28_122) rfl ?_
   exact kt)
  have ls101 := own_iaload X89 hx hZ e89 f90 (j := (0 : Int32)) (i := 0) (by decide) (by decide) (by decide) (v := (.int 1073741823)) (rfl) (g := (mkF m 123 #[rv mx, rv my, iv 0, rv br, iv 0, .val (.long (own_e1 (f 0))), .second, iv 0] [.int 0, .ref mx, .int 0, .ref br])) rfl rfl (hb hby d28_123)
  have st102 := fun t kt => st100 t (ls101 t kt)
  obtain ⟨T103, h103, X103, e103, W103, B103, ls103⟩ := own_iastore X89 hx hZ e89 f94 (j := (0 : Int32)) (i := 0) (by decide) (by decide) (by decide) (g := (mkF m 124 #[rv mx, rv my, iv 0, rv br, iv 0, .val (.long (own_e1 (f 0))), .second, iv 0] [.int 1073741823, .int 0, .ref br])) rfl rfl (hb hby d28_124)
  have N103 := Fr.snoc X103 N89 g_br
  have z106 := Nat.le_trans z92 (Keep.of_wr W103).1
  have k107 := k93.wr W103 (Or.inr sz_br)
  have f108 := B103
  have st109 := fun t kt => st102 t (ls103 t kt)
  have hc110 : ¬ ((0 : Int32) < (0 : Int32)) := by decide
  have st111 : own_K p e below T103 m 129 #[rv mx, rv my, iv 0, rv br, iv 0, .val (.long (own_e1 (f 0))), .second, iv 0] [.ref br] B0 := fun t kt => st109 t (by
   refine XS.goto X103.here hx rfl (pc0 := 125) (pc' := 112) rfl (hb hby d28_125) (by decide) (by decide) ?_
   refine XS.iloadN X103.here hx rfl (hb hby d28_112) rfl ?_
   refine XS.ifYes X103.here hx rfl (pc0 := 113) (pc' := 128) rfl (hb hby d28_113) rfl ((if0 _ _).trans (flt hc110).2.2.2) (by decide) (by decide) ?_
   refine XS.aloadN X103.here hx rfl (hb hby d28_128) rfl rfl ?_
   exact kt)
  obtain ⟨fs, hr, hrun, hended, hW, hsame⟩ := X103.leave (v := (some (.ref br))) (fun h => by rw [Bd.returns] at h; cases h)
  subst hB0
  refine ⟨_, _, st111 _ ?_, hrun, hended, _, _, rfl, ?_, ⟨_, rfl⟩, hW, hsame.mono (by decide) (by decide)⟩
  ·exact retOut X103 hx Bd.returns rfl (Or.inr (Or.inr (Or.inr (Or.inr ⟨rfl, rfl, rfl⟩)))) (hb hby d28_129) hr
  ·show Q_rm_sb1 Z mx my f h0 n0 _ T103.heap _
   rw [e103]
   exact ⟨_, rfl, N103, k107, g_br, f108.congr (g := fun q => .int (own_sb1 f q)) (fun q hq => by
   have z : q = 0 ∨ q = 1 ∨ q = 2 ∨ q = 3 := by omega
   unfold own_sb1
   rw [if_neg q1]
   rcases z with rfl | rfl | rfl | rfl <;> rfl)⟩
def Q_rm_sb2 (Z : State) (mx : Addr) (my : Addr) (f : Nat → Int32) (h0 : Heap) (n0 : Nat) (v : Option Value) (h : Heap) (L : List Loc) : Prop := ∃ rq, v = some (.ref rq) ∧ Fr n0 L ∧ Keep h0 h [] ∧ n0 ≤ rq ∧ own_Av Z h rq .int 4 (fun q => .int (own_sb2 f q))
set_option maxRecDepth 65536 in
set_option maxHeartbeats 40000000 in
theorem rm_sb2 (l : Launch) (Z : State) (a0 : Array Value) (hw : ∀ d ∈ tables_1, d.before a0 Z = true) (ws : List Jvm.Cond) (mx : Addr) (my : Addr) (f : Nat → Int32) (h0 : Heap) (n0 : Nat) (Z0 : n0 ≤ h0.size) (Ax : own_Av Z h0 mx .int 4 (fun q => .int ((own_w4 1073741823 (-1) 0 1) q))) (Ay : own_Av Z h0 my .int 2 (fun q => .int (f q))) :
  MetFree l (⟨"java/math/BigInteger", "subtract", "([I[I)[I"⟩ : MethodName) (head1 (Jvm.Cond.code (⟨"java/math/BigInteger", "subtract", "([I[I)[I"⟩ : MethodName) jdk_2097_method_39_code 8 (some (.array .int)) :: ws) ({ frames := 0, cells := 1, slots := 4, locals := 0 } : Room)) (fun a U => a = #[.ref mx, .ref my] ∧ Z.Warmed39 U.vm ∧ U.heap = h0) (fun _ _ _ _ _ => True) (fun _ U o U' => ∃ v L, o = .returned v ∧ Q_rm_sb2 Z mx my f h0 n0 v U'.heap L ∧ FrameEnd U o U' L ({ frames := 0, cells := 1, slots := 4, locals := 0 } : Room).cells ({ frames := 0, cells := 1, slots := 4, locals := 0 } : Room).slots) := by
 refine MetFree.of_bodySF (plainFor_of_name own_pn1) hisR ?_
 intro p e s m args below meth c s₁ Bd hml0 hP hK
 obtain ⟨rfl, hZ, hh⟩ := hP
 have hx := Bd.exec
 have hby := Bd.bytes
 have hml : c.maxLocals = 8 := hml0
 have hown : s.vm.findClass "java/math/BigInteger" = some m.cls := findClass_of_methodNamed Bd.named
 have hnm := (name_of_methodNamed Bd.named Bd.method).1
 have X0 : Stand p l e ({ frames := 0, cells := 1, slots := 4, locals := 0 } : Room) s m #[.ref mx, .ref my] below meth c s₁ [] 0 0 := Stand.of_body Bd
 have e0 : s₁.heap = h0 := by rw [← hh, Bd.state]; rfl
 have N0 := Fr.nil n0
 obtain ⟨B0, hB0⟩ : ∃ B, B = (s₁.setTop (entryFrame m #[.ref mx, .ref my] 8)) := ⟨_, rfl⟩
 have st0 : own_K p e below s₁ m 0 #[rv mx, rv my, .unset, .unset, .unset, .unset, .unset, .unset] [] B0 := fun t kk0 => hB0 ▸ castTop (own_ef28_RR m mx my) kk0
 have k0 : Keep h0 h0 [] := Keep.refl _ _
 have st1 : own_K p e below s₁ m 1 #[rv mx, rv my, .unset, .unset, .unset, .unset, .unset, .unset] [.ref mx] B0 := fun t kt => st0 t (by
  refine XS.aloadN X0.here hx rfl (hb hby d28_0) rfl rfl ?_
  exact kt)
 have ls2 := own_alen X0 hx hZ e0 Ax (g := (mkF m 1 #[rv mx, rv my, .unset, .unset, .unset, .unset, .unset, .unset] [.ref mx])) rfl rfl (hb hby d28_1)
 have st3 := fun t kt => st1 t (ls2 t kt)
 have st4 : own_K p e below s₁ m 4 #[rv mx, rv my, iv 4, .unset, .unset, .unset, .unset, .unset] [.int 4] B0 := fun t kt => st3 t (by
  refine XS.istoreN X0.here hx rfl (hb hby d28_2) rfl (l' := #[rv mx, rv my, iv 4, .unset, .unset, .unset, .unset, .unset]) rfl ?_
  refine XS.iloadN X0.here hx rfl (hb hby d28_3) rfl ?_
  exact kt)
 obtain ⟨T5, h5, c5, X5, e5, E5, A5, ls5⟩ := newP X0 hx hZ (own_w hw 82 rfl) e0 (g := (mkF m 4 #[rv mx, rv my, iv 4, .unset, .unset, .unset, .unset, .unset] [.int 4])) rfl (hb hby d28_4) rfl (by decide) (cap := 4) (by decide) (by decide) (by decide) (by decide)
 obtain ⟨br, g5⟩ : ∃ z, z = h0.size := ⟨_, rfl⟩
 rw [← g5] at A5 ls5
 have ne_mx_br : mx ≠ br := Nat.ne_of_lt (Nat.lt_of_lt_of_le Ax.lt (Nat.le_of_eq g5.symm))
 have ne_my_br : my ≠ br := Nat.ne_of_lt (Nat.lt_of_lt_of_le Ay.lt (Nat.le_of_eq g5.symm))
 have g_br : n0 ≤ br := Nat.le_trans Z0 (Nat.le_of_eq g5.symm)
 have sz_br : h0.size ≤ br := Nat.le_trans k0.1 (Nat.le_of_eq g5.symm)
 have f6 := Ax.ext E5
 have f7 := Ay.ext E5
 have z8 := Nat.le_trans Z0 E5.1
 have k9 := k0.ext E5
 have f10 : own_Av Z h5 br .int 4 (fun _ => (.int 0)) := own_Av.new A5 (by decide) (by decide)
 have st11 := fun t kt => st4 t (ls5 t kt)
 have st12 : own_K p e below T5 m 8 #[rv mx, rv my, iv 4, rv br, .unset, .unset, .unset, .unset] [.ref my] B0 := fun t kt => st11 t (by
  refine XS.astoreN X5.here hx rfl (hb hby d28_6) rfl rfl (l' := #[rv mx, rv my, iv 4, rv br, .unset, .unset, .unset, .unset]) rfl ?_
  refine XS.aloadN X5.here hx rfl (hb hby d28_7) rfl rfl ?_
  exact kt)
 have ls13 := own_alen X5 hx hZ e5 f7 (g := (mkF m 8 #[rv mx, rv my, iv 4, rv br, .unset, .unset, .unset, .unset] [.ref my])) rfl rfl (hb hby d28_8)
 have st14 := fun t kt => st12 t (ls13 t kt)
 have hc15 : (0 : Int32) < (2 : Int32) := by decide
 have st16 : own_K p e below T5 m 24 #[rv mx, rv my, iv 3, rv br, iv 2, .val (.long (0 : Int64)), .second, .unset] [.int 3, .ref mx] B0 := fun t kt => st14 t (by
  refine XS.istore X5.here hx rfl (hb hby d28_9) rfl (l' := #[rv mx, rv my, iv 4, rv br, iv 2, .unset, .unset, .unset]) rfl ?_
  refine XS.lconst X5.here hx rfl (hb hby d28_11) ?_
  refine XS.lstore X5.here hx rfl (hb hby d28_12) rfl (l' := #[rv mx, rv my, iv 4, rv br, iv 2, .val (.long (0 : Int64)), .second, .unset]) rfl ?_
  refine XS.iload X5.here hx rfl (hb hby d28_14) rfl ?_
  refine XS.ifNo X5.here hx rfl (hb hby d28_16) rfl ((if0 _ _).trans (tlt hc15).2.2.2) ?_
  refine XS.aloadN X5.here hx rfl (hb hby d28_19) rfl rfl ?_
  refine XS.iinc X5.here hx rfl (hb hby d28_20) rfl (l' := #[rv mx, rv my, iv ((4 : Int32) + (-1 : Int32)), rv br, iv 2, .val (.long (0 : Int64)), .second, .unset]) rfl ?_
  show own_At p e below T5 m 23 #[rv mx, rv my, iv ((4 : Int32) + (-1 : Int32)), rv br, iv 2, .val (.long (0 : Int64)), .second, .unset] [.ref mx] _
  rw [show ((4 : Int32) + (-1 : Int32)) = (3 : Int32) from (by decide +kernel)]
  refine XS.iloadN X5.here hx rfl (hb hby d28_23) rfl ?_
  exact kt)
 have ls17 := own_iaload X5 hx hZ e5 f6 (j := (3 : Int32)) (i := 3) (by decide) (by decide) (by decide) (v := (.int 1)) (rfl) (g := (mkF m 24 #[rv mx, rv my, iv 3, rv br, iv 2, .val (.long (0 : Int64)), .second, .unset] [.int 3, .ref mx])) rfl rfl (hb hby d28_24)
 have st18 := fun t kt => st16 t (ls17 t kt)
 have st19 : own_K p e below T5 m 36 #[rv mx, rv my, iv 3, rv br, iv 1, .val (.long (0 : Int64)), .second, .unset] [.int 1, .ref my, (.long (((1 : Int32).toInt64) &&& (4294967295 : Int64)))] B0 := fun t kt => st18 t (by
  refine XS.i2l X5.here hx rfl (hb hby d28_25) rfl ?_
  show own_At p e below T5 m 26 #[rv mx, rv my, iv 3, rv br, iv 2, .val (.long (0 : Int64)), .second, .unset] [(.long ((1 : Int32).toInt64))] _
  refine X5.ldc2Long hx hown (mvT hZ (own_w hw 108 rfl)) (g := (mkF m 26 #[rv mx, rv my, iv 3, rv br, iv 2, .val (.long (0 : Int64)), .second, .unset] [(.long ((1 : Int32).toInt64))])) rfl (hb hby d28_26) _ ?_
  refine XS.land X5.here hx rfl (hb hby d28_29) rfl ?_
  refine XS.aloadN X5.here hx rfl (hb hby d28_30) rfl rfl ?_
  refine XS.iinc X5.here hx rfl (hb hby d28_31) rfl (l' := #[rv mx, rv my, iv 3, rv br, iv ((2 : Int32) + (-1 : Int32)), .val (.long (0 : Int64)), .second, .unset]) rfl ?_
  show own_At p e below T5 m 34 #[rv mx, rv my, iv 3, rv br, iv ((2 : Int32) + (-1 : Int32)), .val (.long (0 : Int64)), .second, .unset] [.ref my, (.long (((1 : Int32).toInt64) &&& (4294967295 : Int64)))] _
  rw [show ((2 : Int32) + (-1 : Int32)) = (1 : Int32) from (by decide +kernel)]
  refine XS.iload X5.here hx rfl (hb hby d28_34) rfl ?_
  exact kt)
 have ls20 := own_iaload X5 hx hZ e5 f7 (j := (1 : Int32)) (i := 1) (by decide) (by decide) (by decide) (v := (.int (f 1))) (rfl) (g := (mkF m 36 #[rv mx, rv my, iv 3, rv br, iv 1, .val (.long (0 : Int64)), .second, .unset] [.int 1, .ref my, (.long (((1 : Int32).toInt64) &&& (4294967295 : Int64)))])) rfl rfl (hb hby d28_36)
 have st21 := fun t kt => st19 t (ls20 t kt)
 have st22 : own_K p e below T5 m 56 #[rv mx, rv my, iv 3, rv br, iv 1, .val (.long (own_e1 (f 1))), .second, .unset] [(.int ((own_e1 (f 1)).toInt32)), .int 3, .ref br] B0 := fun t kt => st21 t (by
  refine XS.i2l X5.here hx rfl (hb hby d28_37) rfl ?_
  show own_At p e below T5 m 38 #[rv mx, rv my, iv 3, rv br, iv 1, .val (.long (0 : Int64)), .second, .unset] [(.long ((f 1).toInt64)), (.long (((1 : Int32).toInt64) &&& (4294967295 : Int64)))] _
  refine X5.ldc2Long hx hown (mvT hZ (own_w hw 108 rfl)) (g := (mkF m 38 #[rv mx, rv my, iv 3, rv br, iv 1, .val (.long (0 : Int64)), .second, .unset] [(.long ((f 1).toInt64)), (.long (((1 : Int32).toInt64) &&& (4294967295 : Int64)))])) rfl (hb hby d28_38) _ ?_
  refine XS.land X5.here hx rfl (hb hby d28_41) rfl ?_
  refine XS.lsub X5.here hx rfl (hb hby d28_42) rfl ?_
  refine XS.lload X5.here hx rfl (hb hby d28_43) rfl ?_
  refine XS.bipush X5.here hx rfl (hb hby d28_45) ?_
  refine XS.lshr X5.here hx rfl (hb hby d28_47) rfl ?_
  refine XS.ladd X5.here hx rfl (hb hby d28_48) rfl ?_
  show own_At p e below T5 m 49 #[rv mx, rv my, iv 3, rv br, iv 1, .val (.long (0 : Int64)), .second, .unset] [(.long (((((1 : Int32).toInt64) &&& (4294967295 : Int64)) - (((f 1).toInt64) &&& (4294967295 : Int64))) + ((0 : Int64) >>> ((32 : Int32) &&& 0x3f).toInt64)))] _
  rw [show (((((1 : Int32).toInt64) &&& (4294967295 : Int64)) - (((f 1).toInt64) &&& (4294967295 : Int64))) + ((0 : Int64) >>> ((32 : Int32) &&& 0x3f).toInt64)) = (own_e1 (f 1)) from (rfl)]
  refine XS.lstore X5.here hx rfl (hb hby d28_49) rfl (l' := #[rv mx, rv my, iv 3, rv br, iv 1, .val (.long (own_e1 (f 1))), .second, .unset]) rfl ?_
  refine XS.aloadN X5.here hx rfl (hb hby d28_51) rfl rfl ?_
  refine XS.iloadN X5.here hx rfl (hb hby d28_52) rfl ?_
  refine XS.lload X5.here hx rfl (hb hby d28_53) rfl ?_
  refine XS.l2i X5.here hx rfl (hb hby d28_55) rfl ?_
  exact kt)
 obtain ⟨T23, h23, X23, e23, W23, B23, ls23⟩ := own_iastore X5 hx hZ e5 f10 (j := (3 : Int32)) (i := 3) (by decide) (by decide) (by decide) (g := (mkF m 56 #[rv mx, rv my, iv 3, rv br, iv 1, .val (.long (own_e1 (f 1))), .second, .unset] [(.int ((own_e1 (f 1)).toInt32)), .int 3, .ref br])) rfl rfl (hb hby d28_56)
 have N23 := Fr.snoc X23 N0 g_br
 have f24 := f6.other W23 ne_mx_br
 have f25 := f7.other W23 ne_my_br
 have z26 := Nat.le_trans z8 (Keep.of_wr W23).1
 have k27 := k9.wr W23 (Or.inr sz_br)
 have f28 := B23
 have st29 := fun t kt => st22 t (ls23 t kt)
 have hc30 : (0 : Int32) < (1 : Int32) := by decide
 have st31 : own_K p e below T23 m 24 #[rv mx, rv my, iv 2, rv br, iv 1, .val (.long (own_e1 (f 1))), .second, .unset] [.int 2, .ref mx] B0 := fun t kt => st29 t (by
  refine XS.goto X23.here hx rfl (pc0 := 57) (pc' := 14) rfl (hb hby d28_57) (by decide) (by decide) ?_
  refine XS.iload X23.here hx rfl (hb hby d28_14) rfl ?_
  refine XS.ifNo X23.here hx rfl (hb hby d28_16) rfl ((if0 _ _).trans (tlt hc30).2.2.2) ?_
  refine XS.aloadN X23.here hx rfl (hb hby d28_19) rfl rfl ?_
  refine XS.iinc X23.here hx rfl (hb hby d28_20) rfl (l' := #[rv mx, rv my, iv ((3 : Int32) + (-1 : Int32)), rv br, iv 1, .val (.long (own_e1 (f 1))), .second, .unset]) rfl ?_
  show own_At p e below T23 m 23 #[rv mx, rv my, iv ((3 : Int32) + (-1 : Int32)), rv br, iv 1, .val (.long (own_e1 (f 1))), .second, .unset] [.ref mx] _
  rw [show ((3 : Int32) + (-1 : Int32)) = (2 : Int32) from (by decide +kernel)]
  refine XS.iloadN X23.here hx rfl (hb hby d28_23) rfl ?_
  exact kt)
 have ls32 := own_iaload X23 hx hZ e23 f24 (j := (2 : Int32)) (i := 2) (by decide) (by decide) (by decide) (v := (.int 0)) (rfl) (g := (mkF m 24 #[rv mx, rv my, iv 2, rv br, iv 1, .val (.long (own_e1 (f 1))), .second, .unset] [.int 2, .ref mx])) rfl rfl (hb hby d28_24)
 have st33 := fun t kt => st31 t (ls32 t kt)
 have st34 : own_K p e below T23 m 36 #[rv mx, rv my, iv 2, rv br, iv 0, .val (.long (own_e1 (f 1))), .second, .unset] [.int 0, .ref my, (.long (((0 : Int32).toInt64) &&& (4294967295 : Int64)))] B0 := fun t kt => st33 t (by
  refine XS.i2l X23.here hx rfl (hb hby d28_25) rfl ?_
  show own_At p e below T23 m 26 #[rv mx, rv my, iv 2, rv br, iv 1, .val (.long (own_e1 (f 1))), .second, .unset] [(.long ((0 : Int32).toInt64))] _
  refine X23.ldc2Long hx hown (mvT hZ (own_w hw 108 rfl)) (g := (mkF m 26 #[rv mx, rv my, iv 2, rv br, iv 1, .val (.long (own_e1 (f 1))), .second, .unset] [(.long ((0 : Int32).toInt64))])) rfl (hb hby d28_26) _ ?_
  refine XS.land X23.here hx rfl (hb hby d28_29) rfl ?_
  refine XS.aloadN X23.here hx rfl (hb hby d28_30) rfl rfl ?_
  refine XS.iinc X23.here hx rfl (hb hby d28_31) rfl (l' := #[rv mx, rv my, iv 2, rv br, iv ((1 : Int32) + (-1 : Int32)), .val (.long (own_e1 (f 1))), .second, .unset]) rfl ?_
  show own_At p e below T23 m 34 #[rv mx, rv my, iv 2, rv br, iv ((1 : Int32) + (-1 : Int32)), .val (.long (own_e1 (f 1))), .second, .unset] [.ref my, (.long (((0 : Int32).toInt64) &&& (4294967295 : Int64)))] _
  rw [show ((1 : Int32) + (-1 : Int32)) = (0 : Int32) from (by decide +kernel)]
  refine XS.iload X23.here hx rfl (hb hby d28_34) rfl ?_
  exact kt)
 have ls35 := own_iaload X23 hx hZ e23 f25 (j := (0 : Int32)) (i := 0) (by decide) (by decide) (by decide) (v := (.int (f 0))) (rfl) (g := (mkF m 36 #[rv mx, rv my, iv 2, rv br, iv 0, .val (.long (own_e1 (f 1))), .second, .unset] [.int 0, .ref my, (.long (((0 : Int32).toInt64) &&& (4294967295 : Int64)))])) rfl rfl (hb hby d28_36)
 have st36 := fun t kt => st34 t (ls35 t kt)
 have st37 : own_K p e below T23 m 56 #[rv mx, rv my, iv 2, rv br, iv 0, .val (.long (own_e2 f)), .second, .unset] [(.int ((own_e2 f).toInt32)), .int 2, .ref br] B0 := fun t kt => st36 t (by
  refine XS.i2l X23.here hx rfl (hb hby d28_37) rfl ?_
  show own_At p e below T23 m 38 #[rv mx, rv my, iv 2, rv br, iv 0, .val (.long (own_e1 (f 1))), .second, .unset] [(.long ((f 0).toInt64)), (.long (((0 : Int32).toInt64) &&& (4294967295 : Int64)))] _
  refine X23.ldc2Long hx hown (mvT hZ (own_w hw 108 rfl)) (g := (mkF m 38 #[rv mx, rv my, iv 2, rv br, iv 0, .val (.long (own_e1 (f 1))), .second, .unset] [(.long ((f 0).toInt64)), (.long (((0 : Int32).toInt64) &&& (4294967295 : Int64)))])) rfl (hb hby d28_38) _ ?_
  refine XS.land X23.here hx rfl (hb hby d28_41) rfl ?_
  refine XS.lsub X23.here hx rfl (hb hby d28_42) rfl ?_
  refine XS.lload X23.here hx rfl (hb hby d28_43) rfl ?_
  refine XS.bipush X23.here hx rfl (hb hby d28_45) ?_
  refine XS.lshr X23.here hx rfl (hb hby d28_47) rfl ?_
  refine XS.ladd X23.here hx rfl (hb hby d28_48) rfl ?_
  show own_At p e below T23 m 49 #[rv mx, rv my, iv 2, rv br, iv 0, .val (.long (own_e1 (f 1))), .second, .unset] [(.long (((((0 : Int32).toInt64) &&& (4294967295 : Int64)) - (((f 0).toInt64) &&& (4294967295 : Int64))) + ((own_e1 (f 1)) >>> ((32 : Int32) &&& 0x3f).toInt64)))] _
  rw [show (((((0 : Int32).toInt64) &&& (4294967295 : Int64)) - (((f 0).toInt64) &&& (4294967295 : Int64))) + ((own_e1 (f 1)) >>> ((32 : Int32) &&& 0x3f).toInt64)) = (own_e2 f) from (rfl)]
  refine XS.lstore X23.here hx rfl (hb hby d28_49) rfl (l' := #[rv mx, rv my, iv 2, rv br, iv 0, .val (.long (own_e2 f)), .second, .unset]) rfl ?_
  refine XS.aloadN X23.here hx rfl (hb hby d28_51) rfl rfl ?_
  refine XS.iloadN X23.here hx rfl (hb hby d28_52) rfl ?_
  refine XS.lload X23.here hx rfl (hb hby d28_53) rfl ?_
  refine XS.l2i X23.here hx rfl (hb hby d28_55) rfl ?_
  exact kt)
 obtain ⟨T38, h38, X38, e38, W38, B38, ls38⟩ := own_iastore X23 hx hZ e23 f28 (j := (2 : Int32)) (i := 2) (by decide) (by decide) (by decide) (g := (mkF m 56 #[rv mx, rv my, iv 2, rv br, iv 0, .val (.long (own_e2 f)), .second, .unset] [(.int ((own_e2 f).toInt32)), .int 2, .ref br])) rfl rfl (hb hby d28_56)
 have N38 := Fr.snoc X38 N23 g_br
 have f39 := f24.other W38 ne_mx_br
 have z41 := Nat.le_trans z26 (Keep.of_wr W38).1
 have k42 := k27.wr W38 (Or.inr sz_br)
 have f43 := B38
 have st44 := fun t kt => st37 t (ls38 t kt)
 have hc45 : ¬ ((0 : Int32) < (0 : Int32)) := by decide
 have st46 : own_K p e below T38 m 67 #[rv mx, rv my, iv 2, rv br, iv 0, .val (.long (own_e2 f)), .second, .unset] [(.int (lcmpW (own_sr (own_e2 f)) (0 : Int64)))] B0 := fun t kt => st44 t (by
  refine XS.goto X38.here hx rfl (pc0 := 57) (pc' := 14) rfl (hb hby d28_57) (by decide) (by decide) ?_
  refine XS.iload X38.here hx rfl (hb hby d28_14) rfl ?_
  refine XS.ifYes X38.here hx rfl (pc0 := 16) (pc' := 60) rfl (hb hby d28_16) rfl ((if0 _ _).trans (flt hc45).2.2.2) (by decide) (by decide) ?_
  refine XS.lload X38.here hx rfl (hb hby d28_60) rfl ?_
  refine XS.bipush X38.here hx rfl (hb hby d28_62) ?_
  refine XS.lshr X38.here hx rfl (hb hby d28_64) rfl ?_
  show own_At p e below T38 m 65 #[rv mx, rv my, iv 2, rv br, iv 0, .val (.long (own_e2 f)), .second, .unset] [(.long ((own_e2 f) >>> ((32 : Int32) &&& 0x3f).toInt64))] _
  rw [show ((own_e2 f) >>> ((32 : Int32) &&& 0x3f).toInt64) = (own_sr (own_e2 f)) from (rfl)]
  refine XS.lconst X38.here hx rfl (hb hby d28_65) ?_
  refine XS.lcmp X38.here hx rfl (hb hby d28_66) rfl ?_
  exact kt)
 by_cases q1 : (own_sr (own_e2 f)) = (0 : Int64)
 ·have hc47 : (0 : Int32) < (2 : Int32) := by decide
  have hc48 : (0 : Int32) = (0 : Int32) := by decide
  have hc49 : (0 : Int32) < (2 : Int32) := by decide
  have st50 : own_K p e below T38 m 123 #[rv mx, rv my, iv 1, rv br, iv 0, .val (.long (own_e2 f)), .second, iv 0] [.int 1, .ref mx, .int 1, .ref br] B0 := fun t kt => st46 t (by
   refine XS.ifYes X38.here hx rfl (pc0 := 67) (pc' := 74) rfl (hb hby d28_67) rfl ((if0 _ _).trans (teq ((lw_eq _ _).mpr q1)).1) (by decide) (by decide) ?_
   refine XS.iconst X38.here hx rfl (hb hby d28_74) ?_
   refine XS.istore X38.here hx rfl (hb hby d28_75) rfl (l' := #[rv mx, rv my, iv 2, rv br, iv 0, .val (.long (own_e2 f)), .second, iv 0]) rfl ?_
   refine XS.iloadN X38.here hx rfl (hb hby d28_77) rfl ?_
   refine XS.ifNo X38.here hx rfl (hb hby d28_78) rfl ((if0 _ _).trans (tlt hc47).2.2.2) ?_
   refine XS.iload X38.here hx rfl (hb hby d28_81) rfl ?_
   refine XS.ifYes X38.here hx rfl (pc0 := 83) (pc' := 112) rfl (hb hby d28_83) rfl ((if0 _ _).trans (teq hc48).1) (by decide) (by decide) ?_
   refine XS.iloadN X38.here hx rfl (hb hby d28_112) rfl ?_
   refine XS.ifNo X38.here hx rfl (hb hby d28_113) rfl ((if0 _ _).trans (tlt hc49).2.2.2) ?_
   refine XS.aloadN X38.here hx rfl (hb hby d28_116) rfl rfl ?_
   refine XS.iinc X38.here hx rfl (hb hby d28_117) rfl (l' := #[rv mx, rv my, iv ((2 : Int32) + (-1 : Int32)), rv br, iv 0, .val (.long (own_e2 f)), .second, iv 0]) rfl ?_
   show own_At p e below T38 m 120 #[rv mx, rv my, iv ((2 : Int32) + (-1 : Int32)), rv br, iv 0, .val (.long (own_e2 f)), .second, iv 0] [.ref br] _
   rw [show ((2 : Int32) + (-1 : Int32)) = (1 : Int32) from (by decide +kernel)]
   refine XS.iloadN X38.here hx rfl (hb hby d28_120) rfl ?_
   refine XS.aloadN X38.here hx rfl (hb hby d28_121) rfl rfl ?_
   refine XS.iloadN X38.here hx rfl (hb hby d28_122) rfl ?_
   exact kt)
  have ls51 := own_iaload X38 hx hZ e38 f39 (j := (1 : Int32)) (i := 1) (by decide) (by decide) (by decide) (v := (.int (-1 : Int32))) (rfl) (g := (mkF m 123 #[rv mx, rv my, iv 1, rv br, iv 0, .val (.long (own_e2 f)), .second, iv 0] [.int 1, .ref mx, .int 1, .ref br])) rfl rfl (hb hby d28_123)
  have st52 := fun t kt => st50 t (ls51 t kt)
  obtain ⟨T53, h53, X53, e53, W53, B53, ls53⟩ := own_iastore X38 hx hZ e38 f43 (j := (1 : Int32)) (i := 1) (by decide) (by decide) (by decide) (g := (mkF m 124 #[rv mx, rv my, iv 1, rv br, iv 0, .val (.long (own_e2 f)), .second, iv 0] [.int (-1 : Int32), .int 1, .ref br])) rfl rfl (hb hby d28_124)
  have N53 := Fr.snoc X53 N38 g_br
  have f54 := f39.other W53 ne_mx_br
  have z56 := Nat.le_trans z41 (Keep.of_wr W53).1
  have k57 := k42.wr W53 (Or.inr sz_br)
  have f58 := B53
  have st59 := fun t kt => st52 t (ls53 t kt)
  have hc60 : (0 : Int32) < (1 : Int32) := by decide
  have st61 : own_K p e below T53 m 123 #[rv mx, rv my, iv 0, rv br, iv 0, .val (.long (own_e2 f)), .second, iv 0] [.int 0, .ref mx, .int 0, .ref br] B0 := fun t kt => st59 t (by
   refine XS.goto X53.here hx rfl (pc0 := 125) (pc' := 112) rfl (hb hby d28_125) (by decide) (by decide) ?_
   refine XS.iloadN X53.here hx rfl (hb hby d28_112) rfl ?_
   refine XS.ifNo X53.here hx rfl (hb hby d28_113) rfl ((if0 _ _).trans (tlt hc60).2.2.2) ?_
   refine XS.aloadN X53.here hx rfl (hb hby d28_116) rfl rfl ?_
   refine XS.iinc X53.here hx rfl (hb hby d28_117) rfl (l' := #[rv mx, rv my, iv ((1 : Int32) + (-1 : Int32)), rv br, iv 0, .val (.long (own_e2 f)), .second, iv 0]) rfl ?_
   show own_At p e below T53 m 120 #[rv mx, rv my, iv ((1 : Int32) + (-1 : Int32)), rv br, iv 0, .val (.long (own_e2 f)), .second, iv 0] [.ref br] _
   rw [show ((1 : Int32) + (-1 : Int32)) = (0 : Int32) from (by decide +kernel)]
   refine XS.iloadN X53.here hx rfl (hb hby d28_120) rfl ?_
   refine XS.aloadN X53.here hx rfl (hb hby d28_121) rfl rfl ?_
   refine XS.iloadN X53.here hx rfl (hb hby d28_122) rfl ?_
   exact kt)
  have ls62 := own_iaload X53 hx hZ e53 f54 (j := (0 : Int32)) (i := 0) (by decide) (by decide) (by decide) (v := (.int 1073741823)) (rfl) (g := (mkF m 123 #[rv mx, rv my, iv 0, rv br, iv 0, .val (.long (own_e2 f)), .second, iv 0] [.int 0, .ref mx, .int 0, .ref br])) rfl rfl (hb hby d28_123)
  have st63 := fun t kt => st61 t (ls62 t kt)
  obtain ⟨T64, h64, X64, e64, W64, B64, ls64⟩ := own_iastore X53 hx hZ e53 f58 (j := (0 : Int32)) (i := 0) (by decide) (by decide) (by decide) (g := (mkF m 124 #[rv mx, rv my, iv 0, rv br, iv 0, .val (.long (own_e2 f)), .second, iv 0] [.int 1073741823, .int 0, .ref br])) rfl rfl (hb hby d28_124)
  have N64 := Fr.snoc X64 N53 g_br
  have z67 := Nat.le_trans z56 (Keep.of_wr W64).1
  have k68 := k57.wr W64 (Or.inr sz_br)
  have f69 := B64
  have st70 := fun t kt => st63 t (ls64 t kt)
  have hc71 : ¬ ((0 : Int32) < (0 : Int32)) := by decide
  have st72 : own_K p e below T64 m 129 #[rv mx, rv my, iv 0, rv br, iv 0, .val (.long (own_e2 f)), .second, iv 0] [.ref br] B0 := fun t kt => st70 t (by
   refine XS.goto X64.here hx rfl (pc0 := 125) (pc' := 112) rfl (hb hby d28_125) (by decide) (by decide) ?_
   refine XS.iloadN X64.here hx rfl (hb hby d28_112) rfl ?_
   refine XS.ifYes X64.here hx rfl (pc0 := 113) (pc' := 128) rfl (hb hby d28_113) rfl ((if0 _ _).trans (flt hc71).2.2.2) (by decide) (by decide) ?_
   refine XS.aloadN X64.here hx rfl (hb hby d28_128) rfl rfl ?_
   exact kt)
  obtain ⟨fs, hr, hrun, hended, hW, hsame⟩ := X64.leave (v := (some (.ref br))) (fun h => by rw [Bd.returns] at h; cases h)
  subst hB0
  refine ⟨_, _, st72 _ ?_, hrun, hended, _, _, rfl, ?_, ⟨_, rfl⟩, hW, hsame.mono (by decide) (by decide)⟩
  ·exact retOut X64 hx Bd.returns rfl (Or.inr (Or.inr (Or.inr (Or.inr ⟨rfl, rfl, rfl⟩)))) (hb hby d28_129) hr
  ·show Q_rm_sb2 Z mx my f h0 n0 _ T64.heap _
   rw [e64]
   exact ⟨_, rfl, N64, k68, g_br, f69.congr (g := fun q => .int (own_sb2 f q)) (fun q hq => by
   have z : q = 0 ∨ q = 1 ∨ q = 2 ∨ q = 3 := by omega
   unfold own_sb2
   rw [if_pos q1]
   rcases z with rfl | rfl | rfl | rfl <;> rfl)⟩
 ·have hc73 : (0 : Int32) < (2 : Int32) := by decide
  have hc74 : ¬ ((1 : Int32) = (0 : Int32)) := by decide
  have st75 : own_K p e below T38 m 93 #[rv mx, rv my, iv 1, rv br, iv 0, .val (.long (own_e2 f)), .second, iv 1] [.int 1, .ref mx, .int 1, .ref br] B0 := fun t kt => st46 t (by
   refine XS.ifNo X38.here hx rfl (hb hby d28_67) rfl ((if0 _ _).trans (feq (fun q => q1 ((lw_eq _ _).mp q))).1) ?_
   refine XS.iconst X38.here hx rfl (hb hby d28_70) ?_
   refine XS.goto X38.here hx rfl (pc0 := 71) (pc' := 75) rfl (hb hby d28_71) (by decide) (by decide) ?_
   refine XS.istore X38.here hx rfl (hb hby d28_75) rfl (l' := #[rv mx, rv my, iv 2, rv br, iv 0, .val (.long (own_e2 f)), .second, iv 1]) rfl ?_
   refine XS.iloadN X38.here hx rfl (hb hby d28_77) rfl ?_
   refine XS.ifNo X38.here hx rfl (hb hby d28_78) rfl ((if0 _ _).trans (tlt hc73).2.2.2) ?_
   refine XS.iload X38.here hx rfl (hb hby d28_81) rfl ?_
   refine XS.ifNo X38.here hx rfl (hb hby d28_83) rfl ((if0 _ _).trans (feq hc74).1) ?_
   refine XS.aloadN X38.here hx rfl (hb hby d28_86) rfl rfl ?_
   refine XS.iinc X38.here hx rfl (hb hby d28_87) rfl (l' := #[rv mx, rv my, iv ((2 : Int32) + (-1 : Int32)), rv br, iv 0, .val (.long (own_e2 f)), .second, iv 1]) rfl ?_
   show own_At p e below T38 m 90 #[rv mx, rv my, iv ((2 : Int32) + (-1 : Int32)), rv br, iv 0, .val (.long (own_e2 f)), .second, iv 1] [.ref br] _
   rw [show ((2 : Int32) + (-1 : Int32)) = (1 : Int32) from (by decide +kernel)]
   refine XS.iloadN X38.here hx rfl (hb hby d28_90) rfl ?_
   refine XS.aloadN X38.here hx rfl (hb hby d28_91) rfl rfl ?_
   refine XS.iloadN X38.here hx rfl (hb hby d28_92) rfl ?_
   exact kt)
  have ls76 := own_iaload X38 hx hZ e38 f39 (j := (1 : Int32)) (i := 1) (by decide) (by decide) (by decide) (v := (.int (-1 : Int32))) (rfl) (g := (mkF m 93 #[rv mx, rv my, iv 1, rv br, iv 0, .val (.long (own_e2 f)), .second, iv 1] [.int 1, .ref mx, .int 1, .ref br])) rfl rfl (hb hby d28_93)
  have st77 := fun t kt => st75 t (ls76 t kt)
  have st78 : own_K p e below T38 m 97 #[rv mx, rv my, iv 1, rv br, iv 0, .val (.long (own_e2 f)), .second, iv 1] [.int (-2 : Int32), .int 1, .ref br, .int (-2 : Int32)] B0 := fun t kt => st77 t (by
   refine XS.iconst X38.here hx rfl (hb hby d28_94) ?_
   refine XS.isub X38.here hx rfl (hb hby d28_95) rfl ?_
   show own_At p e below T38 m 96 #[rv mx, rv my, iv 1, rv br, iv 0, .val (.long (own_e2 f)), .second, iv 1] [(.int ((-1 : Int32) - (1 : Int32))), .int 1, .ref br] _
   rw [show ((-1 : Int32) - (1 : Int32)) = (-2 : Int32) from (by decide +kernel)]
   show own_At p e below T38 m 96 #[rv mx, rv my, iv 1, rv br, iv 0, .val (.long (own_e2 f)), .second, iv 1] [.int (-2 : Int32), .int 1, .ref br] _
   jvm_step X38.here [X38.here.top, hx, (hb hby d28_96), Value.category]
   exact kt)
  obtain ⟨T79, h79, X79, e79, W79, B79, ls79⟩ := own_iastore X38 hx hZ e38 f43 (j := (1 : Int32)) (i := 1) (by decide) (by decide) (by decide) (g := (mkF m 97 #[rv mx, rv my, iv 1, rv br, iv 0, .val (.long (own_e2 f)), .second, iv 1] [.int (-2 : Int32), .int 1, .ref br, .int (-2 : Int32)])) rfl rfl (hb hby d28_97)
  have N79 := Fr.snoc X79 N38 g_br
  have f80 := f39.other W79 ne_mx_br
  have z82 := Nat.le_trans z41 (Keep.of_wr W79).1
  have k83 := k42.wr W79 (Or.inr sz_br)
  have f84 := B79
  have st85 := fun t kt => st78 t (ls79 t kt)
  have hc86 : ¬ ((-2 : Int32) = (-1 : Int32)) := by decide
  have hc87 : (0 : Int32) < (1 : Int32) := by decide
  have hc88 : (0 : Int32) = (0 : Int32) := by decide
  have hc89 : (0 : Int32) < (1 : Int32) := by decide
  have st90 : own_K p e below T79 m 123 #[rv mx, rv my, iv 0, rv br, iv 0, .val (.long (own_e2 f)), .second, iv 0] [.int 0, .ref mx, .int 0, .ref br] B0 := fun t kt => st85 t (by
   refine XS.iconst X79.here hx rfl (hb hby d28_98) ?_
   refine XS.icmpYes X79.here hx rfl (pc0 := 99) (pc' := 106) rfl (hb hby d28_99) rfl (feq hc86).2 (by decide) (by decide) ?_
   refine XS.iconst X79.here hx rfl (hb hby d28_106) ?_
   refine XS.istore X79.here hx rfl (hb hby d28_107) rfl (l' := #[rv mx, rv my, iv 1, rv br, iv 0, .val (.long (own_e2 f)), .second, iv 0]) rfl ?_
   refine XS.goto X79.here hx rfl (pc0 := 109) (pc' := 77) rfl (hb hby d28_109) (by decide) (by decide) ?_
   refine XS.iloadN X79.here hx rfl (hb hby d28_77) rfl ?_
   refine XS.ifNo X79.here hx rfl (hb hby d28_78) rfl ((if0 _ _).trans (tlt hc87).2.2.2) ?_
   refine XS.iload X79.here hx rfl (hb hby d28_81) rfl ?_
   refine XS.ifYes X79.here hx rfl (pc0 := 83) (pc' := 112) rfl (hb hby d28_83) rfl ((if0 _ _).trans (teq hc88).1) (by decide) (by decide) ?_
   refine XS.iloadN X79.here hx rfl (hb hby d28_112) rfl ?_
   refine XS.ifNo X79.here hx rfl (hb hby d28_113) rfl ((if0 _ _).trans (tlt hc89).2.2.2) ?_
   refine XS.aloadN X79.here hx rfl (hb hby d28_116) rfl rfl ?_
   refine XS.iinc X79.here hx rfl (hb hby d28_117) rfl (l' := #[rv mx, rv my, iv ((1 : Int32) + (-1 : Int32)), rv br, iv 0, .val (.long (own_e2 f)), .second, iv 0]) rfl ?_
   show own_At p e below T79 m 120 #[rv mx, rv my, iv ((1 : Int32) + (-1 : Int32)), rv br, iv 0, .val (.long (own_e2 f)), .second, iv 0] [.ref br] _
   rw [show ((1 : Int32) + (-1 : Int32)) = (0 : Int32) from (by decide +kernel)]
   refine XS.iloadN X79.here hx rfl (hb hby d28_120) rfl ?_
   refine XS.aloadN X79.here hx rfl (hb hby d28_121) rfl rfl ?_
   refine XS.iloadN X79.here hx rfl (hb hby d28_122) rfl ?_
   exact kt)
  have ls91 := own_iaload X79 hx hZ e79 f80 (j := (0 : Int32)) (i := 0) (by decide) (by decide) (by decide) (v := (.int 1073741823)) (rfl) (g := (mkF m 123 #[rv mx, rv my, iv 0, rv br, iv 0, .val (.long (own_e2 f)), .second, iv 0] [.int 0, .ref mx, .int 0, .ref br])) rfl rfl (hb hby d28_123)
  have st92 := fun t kt => st90 t (ls91 t kt)
  obtain ⟨T93, h93, X93, e93, W93, B93, ls93⟩ := own_iastore X79 hx hZ e79 f84 (j := (0 : Int32)) (i := 0) (by decide) (by decide) (by decide) (g := (mkF m 124 #[rv mx, rv my, iv 0, rv br, iv 0, .val (.long (own_e2 f)), .second, iv 0] [.int 1073741823, .int 0, .ref br])) rfl rfl (hb hby d28_124)
  have N93 := Fr.snoc X93 N79 g_br
  have z96 := Nat.le_trans z82 (Keep.of_wr W93).1
  have k97 := k83.wr W93 (Or.inr sz_br)
  have f98 := B93
  have st99 := fun t kt => st92 t (ls93 t kt)
  have hc100 : ¬ ((0 : Int32) < (0 : Int32)) := by decide
  have st101 : own_K p e below T93 m 129 #[rv mx, rv my, iv 0, rv br, iv 0, .val (.long (own_e2 f)), .second, iv 0] [.ref br] B0 := fun t kt => st99 t (by
   refine XS.goto X93.here hx rfl (pc0 := 125) (pc' := 112) rfl (hb hby d28_125) (by decide) (by decide) ?_
   refine XS.iloadN X93.here hx rfl (hb hby d28_112) rfl ?_
   refine XS.ifYes X93.here hx rfl (pc0 := 113) (pc' := 128) rfl (hb hby d28_113) rfl ((if0 _ _).trans (flt hc100).2.2.2) (by decide) (by decide) ?_
   refine XS.aloadN X93.here hx rfl (hb hby d28_128) rfl rfl ?_
   exact kt)
  obtain ⟨fs, hr, hrun, hended, hW, hsame⟩ := X93.leave (v := (some (.ref br))) (fun h => by rw [Bd.returns] at h; cases h)
  subst hB0
  refine ⟨_, _, st101 _ ?_, hrun, hended, _, _, rfl, ?_, ⟨_, rfl⟩, hW, hsame.mono (by decide) (by decide)⟩
  ·exact retOut X93 hx Bd.returns rfl (Or.inr (Or.inr (Or.inr (Or.inr ⟨rfl, rfl, rfl⟩)))) (hb hby d28_129) hr
  ·show Q_rm_sb2 Z mx my f h0 n0 _ T93.heap _
   rw [e93]
   exact ⟨_, rfl, N93, k97, g_br, f98.congr (g := fun q => .int (own_sb2 f q)) (fun q hq => by
   have z : q = 0 ∨ q = 1 ∨ q = 2 ∨ q = 3 := by omega
   unfold own_sb2
   rw [if_neg q1]
   rcases z with rfl | rfl | rfl | rfl <;> rfl)⟩
def Q_rm_cm1 (Z : State) (bx : Addr) (bv : Addr) (mx : Addr) (mv : Addr) (f : Nat → Int32) (f2 : Nat → Int32) (h0 : Heap) (n0 : Nat) (v : Option Value) (h : Heap) (L : List Loc) : Prop := v = some (.int (-1)) ∧ Fr n0 L ∧ h = h0
set_option maxRecDepth 65536 in
set_option maxHeartbeats 40000000 in
theorem rm_cm1 (l : Launch) (Z : State) (a0 : Array Value) (hw : ∀ d ∈ tables_1, d.before a0 Z = true) (ws : List Jvm.Cond) (bx : Addr) (bv : Addr) (mx : Addr) (mv : Addr) (f : Nat → Int32) (f2 : Nat → Int32) (h0 : Heap) (n0 : Nat) (Z0 : n0 ≤ h0.size) (F_mag_bx : Fld Z h0 bx "java/math/BigInteger" "mag" "[I" (.ref mx)) (A_mx : own_Av Z h0 mx .int 1 (fun q => .int (f q))) (F_mag_bv : Fld Z h0 bv "java/math/BigInteger" "mag" "[I" (.ref mv)) (A_mv : own_Av Z h0 mv .int 4 (fun q => .int (f2 q))) :
  MetFree l (⟨"java/math/BigInteger", "compareMagnitude", "(Ljava/math/BigInteger;)I"⟩ : MethodName) (head1 (Jvm.Cond.code (⟨"java/math/BigInteger", "compareMagnitude", "(Ljava/math/BigInteger;)I"⟩ : MethodName) jdk_2097_method_122_code 9 (some .int) :: ws) ({ frames := 0, cells := 0, slots := 0, locals := 0 } : Room)) (fun a U => a = #[.ref bx, .ref bv] ∧ Z.Warmed39 U.vm ∧ U.heap = h0) (fun _ _ _ _ _ => True) (fun _ U o U' => ∃ v L, o = .returned v ∧ Q_rm_cm1 Z bx bv mx mv f f2 h0 n0 v U'.heap L ∧ FrameEnd U o U' L ({ frames := 0, cells := 0, slots := 0, locals := 0 } : Room).cells ({ frames := 0, cells := 0, slots := 0, locals := 0 } : Room).slots) := by
 refine MetFree.of_bodySF (plainFor_of_name own_pn1) hisR ?_
 intro p e s m args below meth c s₁ Bd hml0 hP hK
 obtain ⟨rfl, hZ, hh⟩ := hP
 have hx := Bd.exec
 have hby := Bd.bytes
 have hml : c.maxLocals = 9 := hml0
 have hown : s.vm.findClass "java/math/BigInteger" = some m.cls := findClass_of_methodNamed Bd.named
 have hnm := (name_of_methodNamed Bd.named Bd.method).1
 have X0 : Stand p l e ({ frames := 0, cells := 0, slots := 0, locals := 0 } : Room) s m #[.ref bx, .ref bv] below meth c s₁ [] 0 0 := Stand.of_body Bd
 have e0 : s₁.heap = h0 := by rw [← hh, Bd.state]; rfl
 have N0 := Fr.nil n0
 obtain ⟨B0, hB0⟩ : ∃ B, B = (s₁.setTop (entryFrame m #[.ref bx, .ref bv] 9)) := ⟨_, rfl⟩
 have st0 : own_K p e below s₁ m 0 #[rv bx, rv bv, .unset, .unset, .unset, .unset, .unset, .unset, .unset] [] B0 := fun t kk0 => hB0 ▸ castTop (own_ef27_RR m bx bv) kk0
 have st1 : own_K p e below s₁ m 1 #[rv bx, rv bv, .unset, .unset, .unset, .unset, .unset, .unset, .unset] [.ref bx] B0 := fun t kt => st0 t (by
  refine XS.aloadN X0.here hx rfl (hb hby d27_0) rfl rfl ?_
  exact kt)
 obtain ⟨T2, X2, e2, ls2⟩ := getF X0 hx hZ hown (host := "") (Or.inl (own_w hw 83 rfl)) Via.refl e0 F_mag_bx (g := (mkF m 1 #[rv bx, rv bv, .unset, .unset, .unset, .unset, .unset, .unset, .unset] [.ref bx])) rfl rfl (hb hby d27_1)
 have st3 := fun t kt => st1 t (ls2 t kt)
 have st4 : own_K p e below T2 m 6 #[rv bx, rv bv, rv mx, .unset, .unset, .unset, .unset, .unset, .unset] [.ref mx] B0 := fun t kt => st3 t (by
  refine XS.astoreN X2.here hx rfl (hb hby d27_4) rfl rfl (l' := #[rv bx, rv bv, rv mx, .unset, .unset, .unset, .unset, .unset, .unset]) rfl ?_
  refine XS.aloadN X2.here hx rfl (hb hby d27_5) rfl rfl ?_
  exact kt)
 have ls5 := own_alen X2 hx hZ e2 A_mx (g := (mkF m 6 #[rv bx, rv bv, rv mx, .unset, .unset, .unset, .unset, .unset, .unset] [.ref mx])) rfl rfl (hb hby d27_6)
 have st6 := fun t kt => st4 t (ls5 t kt)
 have st7 : own_K p e below T2 m 9 #[rv bx, rv bv, rv mx, iv 1, .unset, .unset, .unset, .unset, .unset] [.ref bv] B0 := fun t kt => st6 t (by
  refine XS.istoreN X2.here hx rfl (hb hby d27_7) rfl (l' := #[rv bx, rv bv, rv mx, iv 1, .unset, .unset, .unset, .unset, .unset]) rfl ?_
  refine XS.aloadN X2.here hx rfl (hb hby d27_8) rfl rfl ?_
  exact kt)
 obtain ⟨T8, X8, e8, ls8⟩ := getF X2 hx hZ hown (host := "") (Or.inl (own_w hw 83 rfl)) Via.refl e2 F_mag_bv (g := (mkF m 9 #[rv bx, rv bv, rv mx, iv 1, .unset, .unset, .unset, .unset, .unset] [.ref bv])) rfl rfl (hb hby d27_9)
 have st9 := fun t kt => st7 t (ls8 t kt)
 have st10 : own_K p e below T8 m 16 #[rv bx, rv bv, rv mx, iv 1, rv mv, .unset, .unset, .unset, .unset] [.ref mv] B0 := fun t kt => st9 t (by
  refine XS.astore X8.here hx rfl (hb hby d27_12) rfl rfl (l' := #[rv bx, rv bv, rv mx, iv 1, rv mv, .unset, .unset, .unset, .unset]) rfl ?_
  refine XS.aload X8.here hx rfl (hb hby d27_14) rfl rfl ?_
  exact kt)
 have ls11 := own_alen X8 hx hZ e8 A_mv (g := (mkF m 16 #[rv bx, rv bv, rv mx, iv 1, rv mv, .unset, .unset, .unset, .unset] [.ref mv])) rfl rfl (hb hby d27_16)
 have st12 := fun t kt => st10 t (ls11 t kt)
 have hc13 : (1 : Int32) < (4 : Int32) := by decide
 have st14 : own_K p e below T8 m 26 #[rv bx, rv bv, rv mx, iv 1, rv mv, iv 4, .unset, .unset, .unset] [.int (-1 : Int32)] B0 := fun t kt => st12 t (by
  refine XS.istore X8.here hx rfl (hb hby d27_17) rfl (l' := #[rv bx, rv bv, rv mx, iv 1, rv mv, iv 4, .unset, .unset, .unset]) rfl ?_
  refine XS.iloadN X8.here hx rfl (hb hby d27_19) rfl ?_
  refine XS.iload X8.here hx rfl (hb hby d27_20) rfl ?_
  refine XS.icmpNo X8.here hx rfl (hb hby d27_22) rfl (tlt hc13).2.1 ?_
  refine XS.iconst X8.here hx rfl (hb hby d27_25) ?_
  exact kt)
 obtain ⟨fs, hr, hrun, hended, hW, hsame⟩ := X8.leave (v := (some (.int (-1 : Int32)))) (fun h => by rw [Bd.returns] at h; cases h)
 subst hB0
 refine ⟨_, _, st14 _ ?_, hrun, hended, _, _, rfl, ?_, ⟨_, rfl⟩, hW, hsame.mono (by decide) (by decide)⟩
 ·exact retOut X8 hx Bd.returns rfl (Or.inl ⟨rfl, Or.inl rfl, _, rfl⟩) (hb hby d27_26) hr
 ·show Q_rm_cm1 Z bx bv mx mv f f2 h0 n0 _ T8.heap _
  rw [e8]
  exact ⟨rfl, N0, rfl⟩
def Q_rm_cm2 (Z : State) (bx : Addr) (bv : Addr) (mx : Addr) (mv : Addr) (f : Nat → Int32) (f2 : Nat → Int32) (h0 : Heap) (n0 : Nat) (v : Option Value) (h : Heap) (L : List Loc) : Prop := v = some (.int (-1)) ∧ Fr n0 L ∧ h = h0
set_option maxRecDepth 65536 in
set_option maxHeartbeats 40000000 in
theorem rm_cm2 (l : Launch) (Z : State) (a0 : Array Value) (hw : ∀ d ∈ tables_1, d.before a0 Z = true) (ws : List Jvm.Cond) (bx : Addr) (bv : Addr) (mx : Addr) (mv : Addr) (f : Nat → Int32) (f2 : Nat → Int32) (h0 : Heap) (n0 : Nat) (Z0 : n0 ≤ h0.size) (F_mag_bx : Fld Z h0 bx "java/math/BigInteger" "mag" "[I" (.ref mx)) (A_mx : own_Av Z h0 mx .int 2 (fun q => .int (f q))) (F_mag_bv : Fld Z h0 bv "java/math/BigInteger" "mag" "[I" (.ref mv)) (A_mv : own_Av Z h0 mv .int 4 (fun q => .int (f2 q))) :
  MetFree l (⟨"java/math/BigInteger", "compareMagnitude", "(Ljava/math/BigInteger;)I"⟩ : MethodName) (head1 (Jvm.Cond.code (⟨"java/math/BigInteger", "compareMagnitude", "(Ljava/math/BigInteger;)I"⟩ : MethodName) jdk_2097_method_122_code 9 (some .int) :: ws) ({ frames := 0, cells := 0, slots := 0, locals := 0 } : Room)) (fun a U => a = #[.ref bx, .ref bv] ∧ Z.Warmed39 U.vm ∧ U.heap = h0) (fun _ _ _ _ _ => True) (fun _ U o U' => ∃ v L, o = .returned v ∧ Q_rm_cm2 Z bx bv mx mv f f2 h0 n0 v U'.heap L ∧ FrameEnd U o U' L ({ frames := 0, cells := 0, slots := 0, locals := 0 } : Room).cells ({ frames := 0, cells := 0, slots := 0, locals := 0 } : Room).slots) := by
 refine MetFree.of_bodySF (plainFor_of_name own_pn1) hisR ?_
 intro p e s m args below meth c s₁ Bd hml0 hP hK
 obtain ⟨rfl, hZ, hh⟩ := hP
 have hx := Bd.exec
 have hby := Bd.bytes
 have hml : c.maxLocals = 9 := hml0
 have hown : s.vm.findClass "java/math/BigInteger" = some m.cls := findClass_of_methodNamed Bd.named
 have hnm := (name_of_methodNamed Bd.named Bd.method).1
 have X0 : Stand p l e ({ frames := 0, cells := 0, slots := 0, locals := 0 } : Room) s m #[.ref bx, .ref bv] below meth c s₁ [] 0 0 := Stand.of_body Bd
 have e0 : s₁.heap = h0 := by rw [← hh, Bd.state]; rfl
 have N0 := Fr.nil n0
 obtain ⟨B0, hB0⟩ : ∃ B, B = (s₁.setTop (entryFrame m #[.ref bx, .ref bv] 9)) := ⟨_, rfl⟩
 have st0 : own_K p e below s₁ m 0 #[rv bx, rv bv, .unset, .unset, .unset, .unset, .unset, .unset, .unset] [] B0 := fun t kk0 => hB0 ▸ castTop (own_ef27_RR m bx bv) kk0
 have st1 : own_K p e below s₁ m 1 #[rv bx, rv bv, .unset, .unset, .unset, .unset, .unset, .unset, .unset] [.ref bx] B0 := fun t kt => st0 t (by
  refine XS.aloadN X0.here hx rfl (hb hby d27_0) rfl rfl ?_
  exact kt)
 obtain ⟨T2, X2, e2, ls2⟩ := getF X0 hx hZ hown (host := "") (Or.inl (own_w hw 83 rfl)) Via.refl e0 F_mag_bx (g := (mkF m 1 #[rv bx, rv bv, .unset, .unset, .unset, .unset, .unset, .unset, .unset] [.ref bx])) rfl rfl (hb hby d27_1)
 have st3 := fun t kt => st1 t (ls2 t kt)
 have st4 : own_K p e below T2 m 6 #[rv bx, rv bv, rv mx, .unset, .unset, .unset, .unset, .unset, .unset] [.ref mx] B0 := fun t kt => st3 t (by
  refine XS.astoreN X2.here hx rfl (hb hby d27_4) rfl rfl (l' := #[rv bx, rv bv, rv mx, .unset, .unset, .unset, .unset, .unset, .unset]) rfl ?_
  refine XS.aloadN X2.here hx rfl (hb hby d27_5) rfl rfl ?_
  exact kt)
 have ls5 := own_alen X2 hx hZ e2 A_mx (g := (mkF m 6 #[rv bx, rv bv, rv mx, .unset, .unset, .unset, .unset, .unset, .unset] [.ref mx])) rfl rfl (hb hby d27_6)
 have st6 := fun t kt => st4 t (ls5 t kt)
 have st7 : own_K p e below T2 m 9 #[rv bx, rv bv, rv mx, iv 2, .unset, .unset, .unset, .unset, .unset] [.ref bv] B0 := fun t kt => st6 t (by
  refine XS.istoreN X2.here hx rfl (hb hby d27_7) rfl (l' := #[rv bx, rv bv, rv mx, iv 2, .unset, .unset, .unset, .unset, .unset]) rfl ?_
  refine XS.aloadN X2.here hx rfl (hb hby d27_8) rfl rfl ?_
  exact kt)
 obtain ⟨T8, X8, e8, ls8⟩ := getF X2 hx hZ hown (host := "") (Or.inl (own_w hw 83 rfl)) Via.refl e2 F_mag_bv (g := (mkF m 9 #[rv bx, rv bv, rv mx, iv 2, .unset, .unset, .unset, .unset, .unset] [.ref bv])) rfl rfl (hb hby d27_9)
 have st9 := fun t kt => st7 t (ls8 t kt)
 have st10 : own_K p e below T8 m 16 #[rv bx, rv bv, rv mx, iv 2, rv mv, .unset, .unset, .unset, .unset] [.ref mv] B0 := fun t kt => st9 t (by
  refine XS.astore X8.here hx rfl (hb hby d27_12) rfl rfl (l' := #[rv bx, rv bv, rv mx, iv 2, rv mv, .unset, .unset, .unset, .unset]) rfl ?_
  refine XS.aload X8.here hx rfl (hb hby d27_14) rfl rfl ?_
  exact kt)
 have ls11 := own_alen X8 hx hZ e8 A_mv (g := (mkF m 16 #[rv bx, rv bv, rv mx, iv 2, rv mv, .unset, .unset, .unset, .unset] [.ref mv])) rfl rfl (hb hby d27_16)
 have st12 := fun t kt => st10 t (ls11 t kt)
 have hc13 : (2 : Int32) < (4 : Int32) := by decide
 have st14 : own_K p e below T8 m 26 #[rv bx, rv bv, rv mx, iv 2, rv mv, iv 4, .unset, .unset, .unset] [.int (-1 : Int32)] B0 := fun t kt => st12 t (by
  refine XS.istore X8.here hx rfl (hb hby d27_17) rfl (l' := #[rv bx, rv bv, rv mx, iv 2, rv mv, iv 4, .unset, .unset, .unset]) rfl ?_
  refine XS.iloadN X8.here hx rfl (hb hby d27_19) rfl ?_
  refine XS.iload X8.here hx rfl (hb hby d27_20) rfl ?_
  refine XS.icmpNo X8.here hx rfl (hb hby d27_22) rfl (tlt hc13).2.1 ?_
  refine XS.iconst X8.here hx rfl (hb hby d27_25) ?_
  exact kt)
 obtain ⟨fs, hr, hrun, hended, hW, hsame⟩ := X8.leave (v := (some (.int (-1 : Int32)))) (fun h => by rw [Bd.returns] at h; cases h)
 subst hB0
 refine ⟨_, _, st14 _ ?_, hrun, hended, _, _, rfl, ?_, ⟨_, rfl⟩, hW, hsame.mono (by decide) (by decide)⟩
 ·exact retOut X8 hx Bd.returns rfl (Or.inl ⟨rfl, Or.inl rfl, _, rfl⟩) (hb hby d27_26) hr
 ·show Q_rm_cm2 Z bx bv mx mv f f2 h0 n0 _ T8.heap _
  rw [e8]
  exact ⟨rfl, N0, rfl⟩
def Q_rm_cm4 (Z : State) (bx : Addr) (bv : Addr) (mx : Addr) (mv : Addr) (f : Nat → Int32) (h0 : Heap) (n0 : Nat) (v : Option Value) (h : Heap) (L : List Loc) : Prop := v = some (.int 0) ∧ Fr n0 L ∧ h = h0
set_option maxRecDepth 65536 in
set_option maxHeartbeats 40000000 in
theorem rm_cm4 (l : Launch) (Z : State) (a0 : Array Value) (hw : ∀ d ∈ tables_1, d.before a0 Z = true) (ws : List Jvm.Cond) (bx : Addr) (bv : Addr) (mx : Addr) (mv : Addr) (f : Nat → Int32) (h0 : Heap) (n0 : Nat) (Z0 : n0 ≤ h0.size) (F_mag_bx : Fld Z h0 bx "java/math/BigInteger" "mag" "[I" (.ref mx)) (A_mx : own_Av Z h0 mx .int 4 (fun q => .int (f q))) (F_mag_bv : Fld Z h0 bv "java/math/BigInteger" "mag" "[I" (.ref mv)) (A_mv : own_Av Z h0 mv .int 4 (fun q => .int (f q))) :
  MetFree l (⟨"java/math/BigInteger", "compareMagnitude", "(Ljava/math/BigInteger;)I"⟩ : MethodName) (head1 (Jvm.Cond.code (⟨"java/math/BigInteger", "compareMagnitude", "(Ljava/math/BigInteger;)I"⟩ : MethodName) jdk_2097_method_122_code 9 (some .int) :: ws) ({ frames := 0, cells := 0, slots := 0, locals := 0 } : Room)) (fun a U => a = #[.ref bx, .ref bv] ∧ Z.Warmed39 U.vm ∧ U.heap = h0) (fun _ _ _ _ _ => True) (fun _ U o U' => ∃ v L, o = .returned v ∧ Q_rm_cm4 Z bx bv mx mv f h0 n0 v U'.heap L ∧ FrameEnd U o U' L ({ frames := 0, cells := 0, slots := 0, locals := 0 } : Room).cells ({ frames := 0, cells := 0, slots := 0, locals := 0 } : Room).slots) := by
 refine MetFree.of_bodySF (plainFor_of_name own_pn1) hisR ?_
 intro p e s m args below meth c s₁ Bd hml0 hP hK
 obtain ⟨rfl, hZ, hh⟩ := hP
 have hx := Bd.exec
 have hby := Bd.bytes
 have hml : c.maxLocals = 9 := hml0
 have hown : s.vm.findClass "java/math/BigInteger" = some m.cls := findClass_of_methodNamed Bd.named
 have hnm := (name_of_methodNamed Bd.named Bd.method).1
 have X0 : Stand p l e ({ frames := 0, cells := 0, slots := 0, locals := 0 } : Room) s m #[.ref bx, .ref bv] below meth c s₁ [] 0 0 := Stand.of_body Bd
 have e0 : s₁.heap = h0 := by rw [← hh, Bd.state]; rfl
 have N0 := Fr.nil n0
 obtain ⟨B0, hB0⟩ : ∃ B, B = (s₁.setTop (entryFrame m #[.ref bx, .ref bv] 9)) := ⟨_, rfl⟩
 have st0 : own_K p e below s₁ m 0 #[rv bx, rv bv, .unset, .unset, .unset, .unset, .unset, .unset, .unset] [] B0 := fun t kk0 => hB0 ▸ castTop (own_ef27_RR m bx bv) kk0
 have st1 : own_K p e below s₁ m 1 #[rv bx, rv bv, .unset, .unset, .unset, .unset, .unset, .unset, .unset] [.ref bx] B0 := fun t kt => st0 t (by
  refine XS.aloadN X0.here hx rfl (hb hby d27_0) rfl rfl ?_
  exact kt)
 obtain ⟨T2, X2, e2, ls2⟩ := getF X0 hx hZ hown (host := "") (Or.inl (own_w hw 83 rfl)) Via.refl e0 F_mag_bx (g := (mkF m 1 #[rv bx, rv bv, .unset, .unset, .unset, .unset, .unset, .unset, .unset] [.ref bx])) rfl rfl (hb hby d27_1)
 have st3 := fun t kt => st1 t (ls2 t kt)
 have st4 : own_K p e below T2 m 6 #[rv bx, rv bv, rv mx, .unset, .unset, .unset, .unset, .unset, .unset] [.ref mx] B0 := fun t kt => st3 t (by
  refine XS.astoreN X2.here hx rfl (hb hby d27_4) rfl rfl (l' := #[rv bx, rv bv, rv mx, .unset, .unset, .unset, .unset, .unset, .unset]) rfl ?_
  refine XS.aloadN X2.here hx rfl (hb hby d27_5) rfl rfl ?_
  exact kt)
 have ls5 := own_alen X2 hx hZ e2 A_mx (g := (mkF m 6 #[rv bx, rv bv, rv mx, .unset, .unset, .unset, .unset, .unset, .unset] [.ref mx])) rfl rfl (hb hby d27_6)
 have st6 := fun t kt => st4 t (ls5 t kt)
 have st7 : own_K p e below T2 m 9 #[rv bx, rv bv, rv mx, iv 4, .unset, .unset, .unset, .unset, .unset] [.ref bv] B0 := fun t kt => st6 t (by
  refine XS.istoreN X2.here hx rfl (hb hby d27_7) rfl (l' := #[rv bx, rv bv, rv mx, iv 4, .unset, .unset, .unset, .unset, .unset]) rfl ?_
  refine XS.aloadN X2.here hx rfl (hb hby d27_8) rfl rfl ?_
  exact kt)
 obtain ⟨T8, X8, e8, ls8⟩ := getF X2 hx hZ hown (host := "") (Or.inl (own_w hw 83 rfl)) Via.refl e2 F_mag_bv (g := (mkF m 9 #[rv bx, rv bv, rv mx, iv 4, .unset, .unset, .unset, .unset, .unset] [.ref bv])) rfl rfl (hb hby d27_9)
 have st9 := fun t kt => st7 t (ls8 t kt)
 have st10 : own_K p e below T8 m 16 #[rv bx, rv bv, rv mx, iv 4, rv mv, .unset, .unset, .unset, .unset] [.ref mv] B0 := fun t kt => st9 t (by
  refine XS.astore X8.here hx rfl (hb hby d27_12) rfl rfl (l' := #[rv bx, rv bv, rv mx, iv 4, rv mv, .unset, .unset, .unset, .unset]) rfl ?_
  refine XS.aload X8.here hx rfl (hb hby d27_14) rfl rfl ?_
  exact kt)
 have ls11 := own_alen X8 hx hZ e8 A_mv (g := (mkF m 16 #[rv bx, rv bv, rv mx, iv 4, rv mv, .unset, .unset, .unset, .unset] [.ref mv])) rfl rfl (hb hby d27_16)
 have st12 := fun t kt => st10 t (ls11 t kt)
 have hc13 : ¬ ((4 : Int32) < (4 : Int32)) := by decide
 have hc14 : ¬ ((4 : Int32) < (4 : Int32)) := by decide
 have hc15 : (0 : Int32) < (4 : Int32) := by decide
 have st16 : own_K p e below T8 m 47 #[rv bx, rv bv, rv mx, iv 4, rv mv, iv 4, iv 0, .unset, .unset] [.int 0, .ref mx] B0 := fun t kt => st12 t (by
  refine XS.istore X8.here hx rfl (hb hby d27_17) rfl (l' := #[rv bx, rv bv, rv mx, iv 4, rv mv, iv 4, .unset, .unset, .unset]) rfl ?_
  refine XS.iloadN X8.here hx rfl (hb hby d27_19) rfl ?_
  refine XS.iload X8.here hx rfl (hb hby d27_20) rfl ?_
  refine XS.icmpYes X8.here hx rfl (pc0 := 22) (pc' := 27) rfl (hb hby d27_22) rfl (flt hc13).2.1 (by decide) (by decide) ?_
  refine XS.iloadN X8.here hx rfl (hb hby d27_27) rfl ?_
  refine XS.iload X8.here hx rfl (hb hby d27_28) rfl ?_
  refine XS.icmpYes X8.here hx rfl (pc0 := 30) (pc' := 35) rfl (hb hby d27_30) rfl (flt hc14).2.2.2 (by decide) (by decide) ?_
  refine XS.iconst X8.here hx rfl (hb hby d27_35) ?_
  refine XS.istore X8.here hx rfl (hb hby d27_36) rfl (l' := #[rv bx, rv bv, rv mx, iv 4, rv mv, iv 4, iv 0, .unset, .unset]) rfl ?_
  refine XS.iload X8.here hx rfl (hb hby d27_38) rfl ?_
  refine XS.iloadN X8.here hx rfl (hb hby d27_40) rfl ?_
  refine XS.icmpNo X8.here hx rfl (hb hby d27_41) rfl (tlt hc15).2.1 ?_
  refine XS.aloadN X8.here hx rfl (hb hby d27_44) rfl rfl ?_
  refine XS.iload X8.here hx rfl (hb hby d27_45) rfl ?_
  exact kt)
 have ls17 := own_iaload X8 hx hZ e8 A_mx (j := (0 : Int32)) (i := 0) (by decide) (by decide) (by decide) (v := (.int (f 0))) (rfl) (g := (mkF m 47 #[rv bx, rv bv, rv mx, iv 4, rv mv, iv 4, iv 0, .unset, .unset] [.int 0, .ref mx])) rfl rfl (hb hby d27_47)
 have st18 := fun t kt => st16 t (ls17 t kt)
 have st19 : own_K p e below T8 m 54 #[rv bx, rv bv, rv mx, iv 4, rv mv, iv 4, iv 0, iv (f 0), .unset] [.int 0, .ref mv] B0 := fun t kt => st18 t (by
  refine XS.istore X8.here hx rfl (hb hby d27_48) rfl (l' := #[rv bx, rv bv, rv mx, iv 4, rv mv, iv 4, iv 0, iv (f 0), .unset]) rfl ?_
  refine XS.aload X8.here hx rfl (hb hby d27_50) rfl rfl ?_
  refine XS.iload X8.here hx rfl (hb hby d27_52) rfl ?_
  exact kt)
 have ls20 := own_iaload X8 hx hZ e8 A_mv (j := (0 : Int32)) (i := 0) (by decide) (by decide) (by decide) (v := (.int (f 0))) (rfl) (g := (mkF m 54 #[rv bx, rv bv, rv mx, iv 4, rv mv, iv 4, iv 0, iv (f 0), .unset] [.int 0, .ref mv])) rfl rfl (hb hby d27_54)
 have st21 := fun t kt => st19 t (ls20 t kt)
 have hc22 : (f 0) = (f 0) := rfl
 have hc23 : (1 : Int32) < (4 : Int32) := by decide
 have st24 : own_K p e below T8 m 47 #[rv bx, rv bv, rv mx, iv 4, rv mv, iv 4, iv 1, iv (f 0), iv (f 0)] [.int 1, .ref mx] B0 := fun t kt => st21 t (by
  refine XS.istore X8.here hx rfl (hb hby d27_55) rfl (l' := #[rv bx, rv bv, rv mx, iv 4, rv mv, iv 4, iv 0, iv (f 0), iv (f 0)]) rfl ?_
  refine XS.iload X8.here hx rfl (hb hby d27_57) rfl ?_
  refine XS.iload X8.here hx rfl (hb hby d27_59) rfl ?_
  refine XS.icmpYes X8.here hx rfl (pc0 := 61) (pc' := 88) rfl (hb hby d27_61) rfl (teq hc22).1 (by decide) (by decide) ?_
  refine XS.iinc X8.here hx rfl (hb hby d27_88) rfl (l' := #[rv bx, rv bv, rv mx, iv 4, rv mv, iv 4, iv ((0 : Int32) + (1 : Int32)), iv (f 0), iv (f 0)]) rfl ?_
  show own_At p e below T8 m 91 #[rv bx, rv bv, rv mx, iv 4, rv mv, iv 4, iv ((0 : Int32) + (1 : Int32)), iv (f 0), iv (f 0)] [] _
  rw [show ((0 : Int32) + (1 : Int32)) = (1 : Int32) from (by decide +kernel)]
  refine XS.goto X8.here hx rfl (pc0 := 91) (pc' := 38) rfl (hb hby d27_91) (by decide) (by decide) ?_
  refine XS.iload X8.here hx rfl (hb hby d27_38) rfl ?_
  refine XS.iloadN X8.here hx rfl (hb hby d27_40) rfl ?_
  refine XS.icmpNo X8.here hx rfl (hb hby d27_41) rfl (tlt hc23).2.1 ?_
  refine XS.aloadN X8.here hx rfl (hb hby d27_44) rfl rfl ?_
  refine XS.iload X8.here hx rfl (hb hby d27_45) rfl ?_
  exact kt)
 have ls25 := own_iaload X8 hx hZ e8 A_mx (j := (1 : Int32)) (i := 1) (by decide) (by decide) (by decide) (v := (.int (f 1))) (rfl) (g := (mkF m 47 #[rv bx, rv bv, rv mx, iv 4, rv mv, iv 4, iv 1, iv (f 0), iv (f 0)] [.int 1, .ref mx])) rfl rfl (hb hby d27_47)
 have st26 := fun t kt => st24 t (ls25 t kt)
 have st27 : own_K p e below T8 m 54 #[rv bx, rv bv, rv mx, iv 4, rv mv, iv 4, iv 1, iv (f 1), iv (f 0)] [.int 1, .ref mv] B0 := fun t kt => st26 t (by
  refine XS.istore X8.here hx rfl (hb hby d27_48) rfl (l' := #[rv bx, rv bv, rv mx, iv 4, rv mv, iv 4, iv 1, iv (f 1), iv (f 0)]) rfl ?_
  refine XS.aload X8.here hx rfl (hb hby d27_50) rfl rfl ?_
  refine XS.iload X8.here hx rfl (hb hby d27_52) rfl ?_
  exact kt)
 have ls28 := own_iaload X8 hx hZ e8 A_mv (j := (1 : Int32)) (i := 1) (by decide) (by decide) (by decide) (v := (.int (f 1))) (rfl) (g := (mkF m 54 #[rv bx, rv bv, rv mx, iv 4, rv mv, iv 4, iv 1, iv (f 1), iv (f 0)] [.int 1, .ref mv])) rfl rfl (hb hby d27_54)
 have st29 := fun t kt => st27 t (ls28 t kt)
 have hc30 : (f 1) = (f 1) := rfl
 have hc31 : (2 : Int32) < (4 : Int32) := by decide
 have st32 : own_K p e below T8 m 47 #[rv bx, rv bv, rv mx, iv 4, rv mv, iv 4, iv 2, iv (f 1), iv (f 1)] [.int 2, .ref mx] B0 := fun t kt => st29 t (by
  refine XS.istore X8.here hx rfl (hb hby d27_55) rfl (l' := #[rv bx, rv bv, rv mx, iv 4, rv mv, iv 4, iv 1, iv (f 1), iv (f 1)]) rfl ?_
  refine XS.iload X8.here hx rfl (hb hby d27_57) rfl ?_
  refine XS.iload X8.here hx rfl (hb hby d27_59) rfl ?_
  refine XS.icmpYes X8.here hx rfl (pc0 := 61) (pc' := 88) rfl (hb hby d27_61) rfl (teq hc30).1 (by decide) (by decide) ?_
  refine XS.iinc X8.here hx rfl (hb hby d27_88) rfl (l' := #[rv bx, rv bv, rv mx, iv 4, rv mv, iv 4, iv ((1 : Int32) + (1 : Int32)), iv (f 1), iv (f 1)]) rfl ?_
  show own_At p e below T8 m 91 #[rv bx, rv bv, rv mx, iv 4, rv mv, iv 4, iv ((1 : Int32) + (1 : Int32)), iv (f 1), iv (f 1)] [] _
  rw [show ((1 : Int32) + (1 : Int32)) = (2 : Int32) from (by decide +kernel)]
  refine XS.goto X8.here hx rfl (pc0 := 91) (pc' := 38) rfl (hb hby d27_91) (by decide) (by decide) ?_
  refine XS.iload X8.here hx rfl (hb hby d27_38) rfl ?_
  refine XS.iloadN X8.here hx rfl (hb hby d27_40) rfl ?_
  refine XS.icmpNo X8.here hx rfl (hb hby d27_41) rfl (tlt hc31).2.1 ?_
  refine XS.aloadN X8.here hx rfl (hb hby d27_44) rfl rfl ?_
  refine XS.iload X8.here hx rfl (hb hby d27_45) rfl ?_
  exact kt)
 have ls33 := own_iaload X8 hx hZ e8 A_mx (j := (2 : Int32)) (i := 2) (by decide) (by decide) (by decide) (v := (.int (f 2))) (rfl) (g := (mkF m 47 #[rv bx, rv bv, rv mx, iv 4, rv mv, iv 4, iv 2, iv (f 1), iv (f 1)] [.int 2, .ref mx])) rfl rfl (hb hby d27_47)
 have st34 := fun t kt => st32 t (ls33 t kt)
 have st35 : own_K p e below T8 m 54 #[rv bx, rv bv, rv mx, iv 4, rv mv, iv 4, iv 2, iv (f 2), iv (f 1)] [.int 2, .ref mv] B0 := fun t kt => st34 t (by
  refine XS.istore X8.here hx rfl (hb hby d27_48) rfl (l' := #[rv bx, rv bv, rv mx, iv 4, rv mv, iv 4, iv 2, iv (f 2), iv (f 1)]) rfl ?_
  refine XS.aload X8.here hx rfl (hb hby d27_50) rfl rfl ?_
  refine XS.iload X8.here hx rfl (hb hby d27_52) rfl ?_
  exact kt)
 have ls36 := own_iaload X8 hx hZ e8 A_mv (j := (2 : Int32)) (i := 2) (by decide) (by decide) (by decide) (v := (.int (f 2))) (rfl) (g := (mkF m 54 #[rv bx, rv bv, rv mx, iv 4, rv mv, iv 4, iv 2, iv (f 2), iv (f 1)] [.int 2, .ref mv])) rfl rfl (hb hby d27_54)
 have st37 := fun t kt => st35 t (ls36 t kt)
 have hc38 : (f 2) = (f 2) := rfl
 have hc39 : (3 : Int32) < (4 : Int32) := by decide
 have st40 : own_K p e below T8 m 47 #[rv bx, rv bv, rv mx, iv 4, rv mv, iv 4, iv 3, iv (f 2), iv (f 2)] [.int 3, .ref mx] B0 := fun t kt => st37 t (by
  refine XS.istore X8.here hx rfl (hb hby d27_55) rfl (l' := #[rv bx, rv bv, rv mx, iv 4, rv mv, iv 4, iv 2, iv (f 2), iv (f 2)]) rfl ?_
  refine XS.iload X8.here hx rfl (hb hby d27_57) rfl ?_
  refine XS.iload X8.here hx rfl (hb hby d27_59) rfl ?_
  refine XS.icmpYes X8.here hx rfl (pc0 := 61) (pc' := 88) rfl (hb hby d27_61) rfl (teq hc38).1 (by decide) (by decide) ?_
  refine XS.iinc X8.here hx rfl (hb hby d27_88) rfl (l' := #[rv bx, rv bv, rv mx, iv 4, rv mv, iv 4, iv ((2 : Int32) + (1 : Int32)), iv (f 2), iv (f 2)]) rfl ?_
  show own_At p e below T8 m 91 #[rv bx, rv bv, rv mx, iv 4, rv mv, iv 4, iv ((2 : Int32) + (1 : Int32)), iv (f 2), iv (f 2)] [] _
  rw [show ((2 : Int32) + (1 : Int32)) = (3 : Int32) from (by decide +kernel)]
  refine XS.goto X8.here hx rfl (pc0 := 91) (pc' := 38) rfl (hb hby d27_91) (by decide) (by decide) ?_
  refine XS.iload X8.here hx rfl (hb hby d27_38) rfl ?_
  refine XS.iloadN X8.here hx rfl (hb hby d27_40) rfl ?_
  refine XS.icmpNo X8.here hx rfl (hb hby d27_41) rfl (tlt hc39).2.1 ?_
  refine XS.aloadN X8.here hx rfl (hb hby d27_44) rfl rfl ?_
  refine XS.iload X8.here hx rfl (hb hby d27_45) rfl ?_
  exact kt)
 have ls41 := own_iaload X8 hx hZ e8 A_mx (j := (3 : Int32)) (i := 3) (by decide) (by decide) (by decide) (v := (.int (f 3))) (rfl) (g := (mkF m 47 #[rv bx, rv bv, rv mx, iv 4, rv mv, iv 4, iv 3, iv (f 2), iv (f 2)] [.int 3, .ref mx])) rfl rfl (hb hby d27_47)
 have st42 := fun t kt => st40 t (ls41 t kt)
 have st43 : own_K p e below T8 m 54 #[rv bx, rv bv, rv mx, iv 4, rv mv, iv 4, iv 3, iv (f 3), iv (f 2)] [.int 3, .ref mv] B0 := fun t kt => st42 t (by
  refine XS.istore X8.here hx rfl (hb hby d27_48) rfl (l' := #[rv bx, rv bv, rv mx, iv 4, rv mv, iv 4, iv 3, iv (f 3), iv (f 2)]) rfl ?_
  refine XS.aload X8.here hx rfl (hb hby d27_50) rfl rfl ?_
  refine XS.iload X8.here hx rfl (hb hby d27_52) rfl ?_
  exact kt)
 have ls44 := own_iaload X8 hx hZ e8 A_mv (j := (3 : Int32)) (i := 3) (by decide) (by decide) (by decide) (v := (.int (f 3))) (rfl) (g := (mkF m 54 #[rv bx, rv bv, rv mx, iv 4, rv mv, iv 4, iv 3, iv (f 3), iv (f 2)] [.int 3, .ref mv])) rfl rfl (hb hby d27_54)
 have st45 := fun t kt => st43 t (ls44 t kt)
 have hc46 : (f 3) = (f 3) := rfl
 have hc47 : ¬ ((4 : Int32) < (4 : Int32)) := by decide
 have st48 : own_K p e below T8 m 95 #[rv bx, rv bv, rv mx, iv 4, rv mv, iv 4, iv 4, iv (f 3), iv (f 3)] [.int 0] B0 := fun t kt => st45 t (by
  refine XS.istore X8.here hx rfl (hb hby d27_55) rfl (l' := #[rv bx, rv bv, rv mx, iv 4, rv mv, iv 4, iv 3, iv (f 3), iv (f 3)]) rfl ?_
  refine XS.iload X8.here hx rfl (hb hby d27_57) rfl ?_
  refine XS.iload X8.here hx rfl (hb hby d27_59) rfl ?_
  refine XS.icmpYes X8.here hx rfl (pc0 := 61) (pc' := 88) rfl (hb hby d27_61) rfl (teq hc46).1 (by decide) (by decide) ?_
  refine XS.iinc X8.here hx rfl (hb hby d27_88) rfl (l' := #[rv bx, rv bv, rv mx, iv 4, rv mv, iv 4, iv ((3 : Int32) + (1 : Int32)), iv (f 3), iv (f 3)]) rfl ?_
  show own_At p e below T8 m 91 #[rv bx, rv bv, rv mx, iv 4, rv mv, iv 4, iv ((3 : Int32) + (1 : Int32)), iv (f 3), iv (f 3)] [] _
  rw [show ((3 : Int32) + (1 : Int32)) = (4 : Int32) from (by decide +kernel)]
  refine XS.goto X8.here hx rfl (pc0 := 91) (pc' := 38) rfl (hb hby d27_91) (by decide) (by decide) ?_
  refine XS.iload X8.here hx rfl (hb hby d27_38) rfl ?_
  refine XS.iloadN X8.here hx rfl (hb hby d27_40) rfl ?_
  refine XS.icmpYes X8.here hx rfl (pc0 := 41) (pc' := 94) rfl (hb hby d27_41) rfl (flt hc47).2.1 (by decide) (by decide) ?_
  refine XS.iconst X8.here hx rfl (hb hby d27_94) ?_
  exact kt)
 obtain ⟨fs, hr, hrun, hended, hW, hsame⟩ := X8.leave (v := (some (.int 0))) (fun h => by rw [Bd.returns] at h; cases h)
 subst hB0
 refine ⟨_, _, st48 _ ?_, hrun, hended, _, _, rfl, ?_, ⟨_, rfl⟩, hW, hsame.mono (by decide) (by decide)⟩
 ·exact retOut X8 hx Bd.returns rfl (Or.inl ⟨rfl, Or.inl rfl, _, rfl⟩) (hb hby d27_95) hr
 ·show Q_rm_cm4 Z bx bv mx mv f h0 n0 _ T8.heap _
  rw [e8]
  exact ⟨rfl, N0, rfl⟩
def Q_rm_adz (Z : State) (bx : Addr) (bv : Addr) (mx : Addr) (mv : Addr) (f : Nat → Int32) (h0 : Heap) (n0 : Nat) (v : Option Value) (h : Heap) (L : List Loc) : Prop := ∃ bq mq, v = some (.ref bq) ∧ Fr n0 L ∧ Keep h0 h [] ∧ own_BI Z h bq mq 1 4 (own_w4 1073741823 (-1) 0 1) ∧ n0 ≤ bq ∧ n0 ≤ mq
set_option maxRecDepth 65536 in
set_option maxHeartbeats 40000000 in
theorem rm_adz (l : Launch) (Z : State) (a0 : Array Value) (hw : ∀ d ∈ tables_1, d.before a0 Z = true) (ws : List Jvm.Cond) (bx : Addr) (bv : Addr) (mx : Addr) (mv : Addr) (f : Nat → Int32) (h0 : Heap) (n0 : Nat) (Z0 : n0 ≤ h0.size) (E_bx : Exa Z h0 bx "java/math/BigInteger") (F_signum_bx : Fld Z h0 bx "java/math/BigInteger" "signum" "I" (.int 0)) (F_mag_bx : Fld Z h0 bx "java/math/BigInteger" "mag" "[I" (.ref mx)) (A_mx : own_Av Z h0 mx .int 0 (fun q => .int (f q))) (E_bv : Exa Z h0 bv "java/math/BigInteger") (F_signum_bv : Fld Z h0 bv "java/math/BigInteger" "signum" "I" (.int 1)) (F_mag_bv : Fld Z h0 bv "java/math/BigInteger" "mag" "[I" (.ref mv)) (A_mv : own_Av Z h0 mv .int 4 (fun q => .int ((own_w4 1073741823 (-1) 0 1) q))) (g_bv : n0 ≤ bv) (g_mv : n0 ≤ mv) :
  MetFree l (⟨"java/math/BigInteger", "add", "(Ljava/math/BigInteger;)Ljava/math/BigInteger;"⟩ : MethodName) (head1 (Jvm.Cond.code (⟨"java/math/BigInteger", "add", "(Ljava/math/BigInteger;)Ljava/math/BigInteger;"⟩ : MethodName) jdk_2097_method_32_code 4 (some (.object "java/math/BigInteger")) :: ws) ({ frames := 0, cells := 0, slots := 0, locals := 0 } : Room)) (fun a U => a = #[.ref bx, .ref bv] ∧ Z.Warmed39 U.vm ∧ U.heap = h0) (fun _ _ _ _ _ => True) (fun _ U o U' => ∃ v L, o = .returned v ∧ Q_rm_adz Z bx bv mx mv f h0 n0 v U'.heap L ∧ FrameEnd U o U' L ({ frames := 0, cells := 0, slots := 0, locals := 0 } : Room).cells ({ frames := 0, cells := 0, slots := 0, locals := 0 } : Room).slots) := by
 refine MetFree.of_bodySF (plainFor_of_name own_pn1) hisR ?_
 intro p e s m args below meth c s₁ Bd hml0 hP hK
 obtain ⟨rfl, hZ, hh⟩ := hP
 have hx := Bd.exec
 have hby := Bd.bytes
 have hml : c.maxLocals = 4 := hml0
 have hown : s.vm.findClass "java/math/BigInteger" = some m.cls := findClass_of_methodNamed Bd.named
 have hnm := (name_of_methodNamed Bd.named Bd.method).1
 have X0 : Stand p l e ({ frames := 0, cells := 0, slots := 0, locals := 0 } : Room) s m #[.ref bx, .ref bv] below meth c s₁ [] 0 0 := Stand.of_body Bd
 have e0 : s₁.heap = h0 := by rw [← hh, Bd.state]; rfl
 have N0 := Fr.nil n0
 obtain ⟨B0, hB0⟩ : ∃ B, B = (s₁.setTop (entryFrame m #[.ref bx, .ref bv] 4)) := ⟨_, rfl⟩
 have st0 : own_K p e below s₁ m 0 #[rv bx, rv bv, .unset, .unset] [] B0 := fun t kk0 => hB0 ▸ castTop (own_ef24_RR m bx bv) kk0
 have k0 : Keep h0 h0 [] := Keep.refl _ _
 have st1 : own_K p e below s₁ m 1 #[rv bx, rv bv, .unset, .unset] [.ref bv] B0 := fun t kt => st0 t (by
  refine XS.aloadN X0.here hx rfl (hb hby d24_0) rfl rfl ?_
  exact kt)
 obtain ⟨T2, X2, e2, ls2⟩ := getF X0 hx hZ hown (host := "") (Or.inl (own_w hw 80 rfl)) Via.refl e0 F_signum_bv (g := (mkF m 1 #[rv bx, rv bv, .unset, .unset] [.ref bv])) rfl rfl (hb hby d24_1)
 have st3 := fun t kt => st1 t (ls2 t kt)
 have hc4 : ¬ ((1 : Int32) = (0 : Int32)) := by decide
 have st5 : own_K p e below T2 m 10 #[rv bx, rv bv, .unset, .unset] [.ref bx] B0 := fun t kt => st3 t (by
  refine XS.ifYes X2.here hx rfl (pc0 := 4) (pc' := 9) rfl (hb hby d24_4) rfl ((if0 _ _).trans (feq hc4).2) (by decide) (by decide) ?_
  refine XS.aloadN X2.here hx rfl (hb hby d24_9) rfl rfl ?_
  exact kt)
 obtain ⟨T6, X6, e6, ls6⟩ := getF X2 hx hZ hown (host := "") (Or.inl (own_w hw 80 rfl)) Via.refl e2 F_signum_bx (g := (mkF m 10 #[rv bx, rv bv, .unset, .unset] [.ref bx])) rfl rfl (hb hby d24_10)
 have st7 := fun t kt => st5 t (ls6 t kt)
 have hc8 : (0 : Int32) = (0 : Int32) := by decide
 have st9 : own_K p e below T6 m 17 #[rv bx, rv bv, .unset, .unset] [.ref bv] B0 := fun t kt => st7 t (by
  refine XS.ifNo X6.here hx rfl (hb hby d24_13) rfl ((if0 _ _).trans (teq hc8).2) ?_
  refine XS.aloadN X6.here hx rfl (hb hby d24_16) rfl rfl ?_
  exact kt)
 obtain ⟨fs, hr, hrun, hended, hW, hsame⟩ := X6.leave (v := (some (.ref bv))) (fun h => by rw [Bd.returns] at h; cases h)
 subst hB0
 refine ⟨_, _, st9 _ ?_, hrun, hended, _, _, rfl, ?_, ⟨_, rfl⟩, hW, hsame.mono (by decide) (by decide)⟩
 ·exact retOut X6 hx Bd.returns rfl (Or.inr (Or.inr (Or.inr (Or.inr ⟨rfl, rfl, rfl⟩)))) (hb hby d24_17) hr
 ·show Q_rm_adz Z bx bv mx mv f h0 n0 _ T6.heap _
  rw [e6]
  exact ⟨_, _, rfl, N0, k0, ⟨E_bv, F_signum_bv, F_mag_bv, A_mv⟩, g_bv, g_mv⟩
def Q_rm_adp1 (Z : State) (bx : Addr) (bv : Addr) (mx : Addr) (mv : Addr) (f : Nat → Int32) (h0 : Heap) (n0 : Nat) (v : Option Value) (h : Heap) (L : List Loc) : Prop := ∃ bq mq, v = some (.ref bq) ∧ Fr n0 L ∧ Keep h0 h [] ∧ own_BI Z h bq mq 1 4 (own_ad1 f) ∧ n0 ≤ bq ∧ n0 ≤ mq
set_option maxRecDepth 65536 in
set_option maxHeartbeats 40000000 in
theorem rm_adp1 (l : Launch) (Z : State) (a0 : Array Value) (hw : ∀ d ∈ tables_1, d.before a0 Z = true) (ws : List Jvm.Cond) (bx : Addr) (bv : Addr) (mx : Addr) (mv : Addr) (f : Nat → Int32) (h0 : Heap) (n0 : Nat) (Z0 : n0 ≤ h0.size) (E_bx : Exa Z h0 bx "java/math/BigInteger") (F_signum_bx : Fld Z h0 bx "java/math/BigInteger" "signum" "I" (.int 1)) (F_mag_bx : Fld Z h0 bx "java/math/BigInteger" "mag" "[I" (.ref mx)) (A_mx : own_Av Z h0 mx .int 1 (fun q => .int (f q))) (E_bv : Exa Z h0 bv "java/math/BigInteger") (F_signum_bv : Fld Z h0 bv "java/math/BigInteger" "signum" "I" (.int 1)) (F_mag_bv : Fld Z h0 bv "java/math/BigInteger" "mag" "[I" (.ref mv)) (A_mv : own_Av Z h0 mv .int 4 (fun q => .int ((own_w4 1073741823 (-1) 0 1) q))) :
  MetFree l (⟨"java/math/BigInteger", "add", "(Ljava/math/BigInteger;)Ljava/math/BigInteger;"⟩ : MethodName) (head1 (Jvm.Cond.code (⟨"java/math/BigInteger", "add", "(Ljava/math/BigInteger;)Ljava/math/BigInteger;"⟩ : MethodName) jdk_2097_method_32_code 4 (some (.object "java/math/BigInteger")) :: ws) ({ frames := 3, cells := 2, slots := 10, locals := 39 } : Room)) (fun a U => a = #[.ref bx, .ref bv] ∧ Z.Warmed39 U.vm ∧ U.heap = h0) (fun _ _ _ _ _ => True) (fun _ U o U' => ∃ v L, o = .returned v ∧ Q_rm_adp1 Z bx bv mx mv f h0 n0 v U'.heap L ∧ FrameEnd U o U' L ({ frames := 3, cells := 2, slots := 10, locals := 39 } : Room).cells ({ frames := 3, cells := 2, slots := 10, locals := 39 } : Room).slots) := by
 refine MetFree.of_bodySF (plainFor_of_name own_pn1) hisR ?_
 intro p e s m args below meth c s₁ Bd hml0 hP hK
 obtain ⟨rfl, hZ, hh⟩ := hP
 have hx := Bd.exec
 have hby := Bd.bytes
 have hml : c.maxLocals = 4 := hml0
 have hown : s.vm.findClass "java/math/BigInteger" = some m.cls := findClass_of_methodNamed Bd.named
 have hnm := (name_of_methodNamed Bd.named Bd.method).1
 have X0 : Stand p l e ({ frames := 3, cells := 2, slots := 10, locals := 39 } : Room) s m #[.ref bx, .ref bv] below meth c s₁ [] 0 0 := Stand.of_body Bd
 have e0 : s₁.heap = h0 := by rw [← hh, Bd.state]; rfl
 have N0 := Fr.nil n0
 obtain ⟨B0, hB0⟩ : ∃ B, B = (s₁.setTop (entryFrame m #[.ref bx, .ref bv] 4)) := ⟨_, rfl⟩
 have st0 : own_K p e below s₁ m 0 #[rv bx, rv bv, .unset, .unset] [] B0 := fun t kk0 => hB0 ▸ castTop (own_ef24_RR m bx bv) kk0
 have k0 : Keep h0 h0 [] := Keep.refl _ _
 have st1 : own_K p e below s₁ m 1 #[rv bx, rv bv, .unset, .unset] [.ref bv] B0 := fun t kt => st0 t (by
  refine XS.aloadN X0.here hx rfl (hb hby d24_0) rfl rfl ?_
  exact kt)
 obtain ⟨T2, X2, e2, ls2⟩ := getF X0 hx hZ hown (host := "") (Or.inl (own_w hw 80 rfl)) Via.refl e0 F_signum_bv (g := (mkF m 1 #[rv bx, rv bv, .unset, .unset] [.ref bv])) rfl rfl (hb hby d24_1)
 have st3 := fun t kt => st1 t (ls2 t kt)
 have hc4 : ¬ ((1 : Int32) = (0 : Int32)) := by decide
 have st5 : own_K p e below T2 m 10 #[rv bx, rv bv, .unset, .unset] [.ref bx] B0 := fun t kt => st3 t (by
  refine XS.ifYes X2.here hx rfl (pc0 := 4) (pc' := 9) rfl (hb hby d24_4) rfl ((if0 _ _).trans (feq hc4).2) (by decide) (by decide) ?_
  refine XS.aloadN X2.here hx rfl (hb hby d24_9) rfl rfl ?_
  exact kt)
 obtain ⟨T6, X6, e6, ls6⟩ := getF X2 hx hZ hown (host := "") (Or.inl (own_w hw 80 rfl)) Via.refl e2 F_signum_bx (g := (mkF m 10 #[rv bx, rv bv, .unset, .unset] [.ref bx])) rfl rfl (hb hby d24_10)
 have st7 := fun t kt => st5 t (ls6 t kt)
 have hc8 : ¬ ((1 : Int32) = (0 : Int32)) := by decide
 have st9 : own_K p e below T6 m 19 #[rv bx, rv bv, .unset, .unset] [.ref bv] B0 := fun t kt => st7 t (by
  refine XS.ifYes X6.here hx rfl (pc0 := 13) (pc' := 18) rfl (hb hby d24_13) rfl ((if0 _ _).trans (feq hc8).2) (by decide) (by decide) ?_
  refine XS.aloadN X6.here hx rfl (hb hby d24_18) rfl rfl ?_
  exact kt)
 obtain ⟨T10, X10, e10, ls10⟩ := getF X6 hx hZ hown (host := "") (Or.inl (own_w hw 80 rfl)) Via.refl e6 F_signum_bv (g := (mkF m 19 #[rv bx, rv bv, .unset, .unset] [.ref bv])) rfl rfl (hb hby d24_19)
 have st11 := fun t kt => st9 t (ls10 t kt)
 have st12 : own_K p e below T10 m 23 #[rv bx, rv bv, .unset, .unset] [.ref bx, .int 1] B0 := fun t kt => st11 t (by
  refine XS.aloadN X10.here hx rfl (hb hby d24_22) rfl rfl ?_
  exact kt)
 obtain ⟨T13, X13, e13, ls13⟩ := getF X10 hx hZ hown (host := "") (Or.inl (own_w hw 80 rfl)) Via.refl e10 F_signum_bx (g := (mkF m 23 #[rv bx, rv bv, .unset, .unset] [.ref bx, .int 1])) rfl rfl (hb hby d24_23)
 have st14 := fun t kt => st12 t (ls13 t kt)
 have hc15 : (1 : Int32) = (1 : Int32) := by decide
 have st16 : own_K p e below T13 m 29 #[rv bx, rv bv, .unset, .unset] [] B0 := fun t kt => st14 t (by
  refine XS.icmpNo X13.here hx rfl (hb hby d24_26) rfl (teq hc15).2 ?_
  exact kt)
 obtain ⟨T17, h17, X17, e17, E17, A17, D17, -, ls17⟩ := newO X13 hx hZ hown (own_w hw 67 rfl) (own_w hw 68 rfl) (own_w hw 63 rfl) e13 (g := (mkF m 29 #[rv bx, rv bv, .unset, .unset] [])) rfl (hb hby d24_29) (by decide) (by decide)
 obtain ⟨bn, g17⟩ : ∃ z, z = h0.size := ⟨_, rfl⟩
 rw [← g17] at A17 D17 ls17
 have g_bn : n0 ≤ bn := Nat.le_trans Z0 (Nat.le_of_eq g17.symm)
 have sz_bn : h0.size ≤ bn := Nat.le_trans k0.1 (Nat.le_of_eq g17.symm)
 have f18 := E_bx.ext E17
 have f19 := F_signum_bx.ext E17
 have f20 := F_mag_bx.ext E17
 have f21 := A_mx.ext E17
 have f22 := E_bv.ext E17
 have f24 := F_mag_bv.ext E17
 have f25 := A_mv.ext E17
 have z26 := Nat.le_trans Z0 E17.1
 have k27 := k0.ext E17
 have f28 : Fld Z h17 bn "java/math/BigInteger" "signum" "I" (.int 0) := D17 (Or.inr (own_w hw 81 rfl)) (ty := .int) (by decide)
 have f29 : Fld Z h17 bn "java/math/BigInteger" "mag" "[I" .null := D17 (Or.inr (own_w hw 84 rfl)) (ty := (.array .int)) (by decide)
 have st30 := fun t kt => st16 t (ls17 t kt)
 have st31 : own_K p e below T17 m 34 #[rv bx, rv bv, .unset, .unset] [.ref bx, .ref bn, .ref bn] B0 := fun t kt => st30 t (by
  refine XS.dup X17.here hx rfl (hb hby d24_32) rfl rfl ?_
  refine XS.aloadN X17.here hx rfl (hb hby d24_33) rfl rfl ?_
  exact kt)
 obtain ⟨T32, X32, e32, ls32⟩ := getF X17 hx hZ hown (host := "") (Or.inl (own_w hw 83 rfl)) Via.refl e17 f20 (g := (mkF m 34 #[rv bx, rv bv, .unset, .unset] [.ref bx, .ref bn, .ref bn])) rfl rfl (hb hby d24_34)
 have st33 := fun t kt => st31 t (ls32 t kt)
 have st34 : own_K p e below T32 m 38 #[rv bx, rv bv, .unset, .unset] [.ref bv, .ref mx, .ref bn, .ref bn] B0 := fun t kt => st33 t (by
  refine XS.aloadN X32.here hx rfl (hb hby d24_37) rfl rfl ?_
  exact kt)
 obtain ⟨T35, X35, e35, ls35⟩ := getF X32 hx hZ hown (host := "") (Or.inl (own_w hw 83 rfl)) Via.refl e32 f24 (g := (mkF m 38 #[rv bx, rv bv, .unset, .unset] [.ref bv, .ref mx, .ref bn, .ref bn])) rfl rfl (hb hby d24_38)
 have st36 := fun t kt => st34 t (ls35 t kt)
 have lt37_bx := f18.lt
 have lt37_mx := f21.lt
 have lt37_bv := f22.lt
 have lt37_mv := f25.lt
 have lt37_bn := A17.lt
 obtain ⟨_, _, ⟨T37, L37, k37, n37⟩, -, X37, ⟨Lc37, hQ37, l37, y37, z37⟩, ls37⟩ := Jvm.LawKit.callS X35 hx (y := (⟨"java/math/BigInteger", "add", "([I[I)[I"⟩ : MethodName)) hown (mvT hZ (own_w hw 121 rfl)) (mvT hZ (own_w hw 122 rfl)) (mvT hZ (own_w hw 63 rfl)) (mvT hZ (own_w hw 123 rfl)) (by decide) (backOf (W := 2) (rm_ad1 l Z a0 hw [] mx mv f h17 n0 z26 f21 f25) hZ (own_w hw 123 rfl) (own_w hw 63 rfl) (by decide) (by decide)) (g := (mkF m 41 #[rv bx, rv bv, .unset, .unset] [.ref mv, .ref mx, .ref bn, .ref bn])) rfl (by rw [hml]; rfl) (argsL := [.ref mx, .ref mv]) (rest := [.ref bn, .ref bn]) (lenOf own_pd6 rfl) rfl (by show 2 * 0 + _ ≤ _; exact Nat.le_of_eq rfl) (hb hby d24_41) (fun _ _ => ⟨rfl, e35, (by decide : 1 + 1 ≤ _), (by decide : 6 + 4 ≤ _)⟩)
 dsimp only [Pt.U, Pt.locs, Pt.cells, Pt.slots] at X37 l37 y37 z37 ls37 hQ37
 subst l37 y37 z37
 obtain ⟨rq37, rfl, Nq37, Kq37, gq37, sq37, Aq37⟩ := hQ37
 have N37 := Fr.app N0 Nq37
 have f39 := f19.keep Kq37 nin0
 have f46 := A17.keep Kq37
 have f47 := f28.keep Kq37 nin0
 have f48 := f29.keep Kq37 nin0
 have z49 := Nat.le_trans z26 Kq37.1
 have k50 := Keep.trans k27 Kq37 all0
 have ne_bn_rq37 : bn ≠ rq37 := Nat.ne_of_lt (Nat.lt_of_lt_of_le lt37_bn sq37)
 have sz_rq37 : h0.size ≤ rq37 := Nat.le_trans k27.1 sq37
 have st51 := fun t kt => st36 t (ls37 t kt)
 have g_rq37 := gq37
 have st52 : own_K p e below T37 m 45 #[rv bx, rv bv, .unset, .unset] [.ref bx, .ref rq37, .ref bn, .ref bn] B0 := fun t kt => st51 t (by
  refine XS.aloadN X37.here hx rfl (hb hby d24_44) rfl rfl ?_
  exact kt)
 obtain ⟨T53, X53, e53, ls53⟩ := getF X37 hx hZ hown (host := "") (Or.inl (own_w hw 80 rfl)) Via.refl rfl f39 (g := (mkF m 45 #[rv bx, rv bv, .unset, .unset] [.ref bx, .ref rq37, .ref bn, .ref bn])) rfl rfl (hb hby d24_45)
 have st54 := fun t kt => st52 t (ls53 t kt)
 obtain ⟨_, _, ⟨T55, L55, k55, n55⟩, -, X55, ⟨Lc55, hQ55, l55, y55, z55⟩, ls55⟩ := X53.specialBack hx (y := (⟨"java/math/BigInteger", "<init>", "([II)V"⟩ : MethodName)) rfl hown (mvT hZ (own_w hw 112 rfl)) (mvT hZ (own_w hw 113 rfl)) (mvT hZ (own_w hw 114 rfl)) (by decide) (backOf (W := 1) (rm_i4 l Z a0 hw [] bn rq37 ((1 : Int32)) ((fun q => .int (own_ad1 f q))) T37.heap n0 z49 f46 g_bn f47 f48 Aq37 ne_bn_rq37) hZ (own_w hw 114 rfl) (own_w hw 63 rfl) (by decide) (by decide)) (g := (mkF m 48 #[rv bx, rv bv, .unset, .unset] [.int 1, .ref rq37, .ref bn, .ref bn])) rfl (by rw [hml]; rfl) (Steps.refl _) (a := bn) (argsL := [.ref rq37, .int 1]) (rest := [.ref bn]) (lenOf own_pd2 rfl) rfl (by show 2 * 0 + _ ≤ _; exact Nat.le_of_eq rfl) (hb hby d24_48) (fun _ _ => ⟨rfl, e53, (by decide : 2 + 0 ≤ _), (by decide : 10 + 0 ≤ _)⟩)
 dsimp only [Pt.U, Pt.locs, Pt.cells, Pt.slots] at X55 l55 y55 z55 ls55 hQ55
 subst l55 y55 z55
 obtain ⟨rfl, Nq55, Kq55, Fq55_signum, Fq55_mag⟩ := hQ55
 have N55 := Fr.app N37 Nq55
 have f64 := f46.keep Kq55
 have f67 := Aq37.keep Kq55 (ninS (Ne.symm ne_bn_rq37) nin0)
 have z68 := Nat.le_trans z49 Kq55.1
 have k69 := Keep.trans k50 Kq55 (allS (P := fun x => x ∈ [] ∨ h0.size ≤ x) (Or.inr sz_bn) all0)
 have st70 : own_K p e below T55 m 51 #[rv bx, rv bv, .unset, .unset] [.ref bn] B0 := fun t kt => st54 t (ls55.trans kt)
 obtain ⟨fs, hr, hrun, hended, hW, hsame⟩ := X55.leave (v := (some (.ref bn))) (fun h => by rw [Bd.returns] at h; cases h)
 subst hB0
 refine ⟨_, _, st70 _ ?_, hrun, hended, _, _, rfl, ?_, ⟨_, rfl⟩, hW, hsame.mono (by decide) (by decide)⟩
 ·exact retOut X55 hx Bd.returns rfl (Or.inr (Or.inr (Or.inr (Or.inr ⟨rfl, rfl, rfl⟩)))) (hb hby d24_51) hr
 ·show Q_rm_adp1 Z bx bv mx mv f h0 n0 _ T55.heap _
  skip
  exact ⟨_, _, rfl, N55, k69, ⟨f64, Fq55_signum, Fq55_mag, f67⟩, g_bn, g_rq37⟩
def Q_rm_adp2 (Z : State) (bx : Addr) (bv : Addr) (mx : Addr) (mv : Addr) (f : Nat → Int32) (h0 : Heap) (n0 : Nat) (v : Option Value) (h : Heap) (L : List Loc) : Prop := ∃ bq mq, v = some (.ref bq) ∧ Fr n0 L ∧ Keep h0 h [] ∧ own_BI Z h bq mq 1 4 (own_ad2 f) ∧ n0 ≤ bq ∧ n0 ≤ mq
set_option maxRecDepth 65536 in
set_option maxHeartbeats 40000000 in
theorem rm_adp2 (l : Launch) (Z : State) (a0 : Array Value) (hw : ∀ d ∈ tables_1, d.before a0 Z = true) (ws : List Jvm.Cond) (bx : Addr) (bv : Addr) (mx : Addr) (mv : Addr) (f : Nat → Int32) (h0 : Heap) (n0 : Nat) (Z0 : n0 ≤ h0.size) (E_bx : Exa Z h0 bx "java/math/BigInteger") (F_signum_bx : Fld Z h0 bx "java/math/BigInteger" "signum" "I" (.int 1)) (F_mag_bx : Fld Z h0 bx "java/math/BigInteger" "mag" "[I" (.ref mx)) (A_mx : own_Av Z h0 mx .int 2 (fun q => .int (f q))) (E_bv : Exa Z h0 bv "java/math/BigInteger") (F_signum_bv : Fld Z h0 bv "java/math/BigInteger" "signum" "I" (.int 1)) (F_mag_bv : Fld Z h0 bv "java/math/BigInteger" "mag" "[I" (.ref mv)) (A_mv : own_Av Z h0 mv .int 4 (fun q => .int ((own_w4 1073741823 (-1) 0 1) q))) :
  MetFree l (⟨"java/math/BigInteger", "add", "(Ljava/math/BigInteger;)Ljava/math/BigInteger;"⟩ : MethodName) (head1 (Jvm.Cond.code (⟨"java/math/BigInteger", "add", "(Ljava/math/BigInteger;)Ljava/math/BigInteger;"⟩ : MethodName) jdk_2097_method_32_code 4 (some (.object "java/math/BigInteger")) :: ws) ({ frames := 3, cells := 2, slots := 10, locals := 39 } : Room)) (fun a U => a = #[.ref bx, .ref bv] ∧ Z.Warmed39 U.vm ∧ U.heap = h0) (fun _ _ _ _ _ => True) (fun _ U o U' => ∃ v L, o = .returned v ∧ Q_rm_adp2 Z bx bv mx mv f h0 n0 v U'.heap L ∧ FrameEnd U o U' L ({ frames := 3, cells := 2, slots := 10, locals := 39 } : Room).cells ({ frames := 3, cells := 2, slots := 10, locals := 39 } : Room).slots) := by
 refine MetFree.of_bodySF (plainFor_of_name own_pn1) hisR ?_
 intro p e s m args below meth c s₁ Bd hml0 hP hK
 obtain ⟨rfl, hZ, hh⟩ := hP
 have hx := Bd.exec
 have hby := Bd.bytes
 have hml : c.maxLocals = 4 := hml0
 have hown : s.vm.findClass "java/math/BigInteger" = some m.cls := findClass_of_methodNamed Bd.named
 have hnm := (name_of_methodNamed Bd.named Bd.method).1
 have X0 : Stand p l e ({ frames := 3, cells := 2, slots := 10, locals := 39 } : Room) s m #[.ref bx, .ref bv] below meth c s₁ [] 0 0 := Stand.of_body Bd
 have e0 : s₁.heap = h0 := by rw [← hh, Bd.state]; rfl
 have N0 := Fr.nil n0
 obtain ⟨B0, hB0⟩ : ∃ B, B = (s₁.setTop (entryFrame m #[.ref bx, .ref bv] 4)) := ⟨_, rfl⟩
 have st0 : own_K p e below s₁ m 0 #[rv bx, rv bv, .unset, .unset] [] B0 := fun t kk0 => hB0 ▸ castTop (own_ef24_RR m bx bv) kk0
 have k0 : Keep h0 h0 [] := Keep.refl _ _
 have st1 : own_K p e below s₁ m 1 #[rv bx, rv bv, .unset, .unset] [.ref bv] B0 := fun t kt => st0 t (by
  refine XS.aloadN X0.here hx rfl (hb hby d24_0) rfl rfl ?_
  exact kt)
 obtain ⟨T2, X2, e2, ls2⟩ := getF X0 hx hZ hown (host := "") (Or.inl (own_w hw 80 rfl)) Via.refl e0 F_signum_bv (g := (mkF m 1 #[rv bx, rv bv, .unset, .unset] [.ref bv])) rfl rfl (hb hby d24_1)
 have st3 := fun t kt => st1 t (ls2 t kt)
 have hc4 : ¬ ((1 : Int32) = (0 : Int32)) := by decide
 have st5 : own_K p e below T2 m 10 #[rv bx, rv bv, .unset, .unset] [.ref bx] B0 := fun t kt => st3 t (by
  refine XS.ifYes X2.here hx rfl (pc0 := 4) (pc' := 9) rfl (hb hby d24_4) rfl ((if0 _ _).trans (feq hc4).2) (by decide) (by decide) ?_
  refine XS.aloadN X2.here hx rfl (hb hby d24_9) rfl rfl ?_
  exact kt)
 obtain ⟨T6, X6, e6, ls6⟩ := getF X2 hx hZ hown (host := "") (Or.inl (own_w hw 80 rfl)) Via.refl e2 F_signum_bx (g := (mkF m 10 #[rv bx, rv bv, .unset, .unset] [.ref bx])) rfl rfl (hb hby d24_10)
 have st7 := fun t kt => st5 t (ls6 t kt)
 have hc8 : ¬ ((1 : Int32) = (0 : Int32)) := by decide
 have st9 : own_K p e below T6 m 19 #[rv bx, rv bv, .unset, .unset] [.ref bv] B0 := fun t kt => st7 t (by
  refine XS.ifYes X6.here hx rfl (pc0 := 13) (pc' := 18) rfl (hb hby d24_13) rfl ((if0 _ _).trans (feq hc8).2) (by decide) (by decide) ?_
  refine XS.aloadN X6.here hx rfl (hb hby d24_18) rfl rfl ?_
  exact kt)
 obtain ⟨T10, X10, e10, ls10⟩ := getF X6 hx hZ hown (host := "") (Or.inl (own_w hw 80 rfl)) Via.refl e6 F_signum_bv (g := (mkF m 19 #[rv bx, rv bv, .unset, .unset] [.ref bv])) rfl rfl (hb hby d24_19)
 have st11 := fun t kt => st9 t (ls10 t kt)
 have st12 : own_K p e below T10 m 23 #[rv bx, rv bv, .unset, .unset] [.ref bx, .int 1] B0 := fun t kt => st11 t (by
  refine XS.aloadN X10.here hx rfl (hb hby d24_22) rfl rfl ?_
  exact kt)
 obtain ⟨T13, X13, e13, ls13⟩ := getF X10 hx hZ hown (host := "") (Or.inl (own_w hw 80 rfl)) Via.refl e10 F_signum_bx (g := (mkF m 23 #[rv bx, rv bv, .unset, .unset] [.ref bx, .int 1])) rfl rfl (hb hby d24_23)
 have st14 := fun t kt => st12 t (ls13 t kt)
 have hc15 : (1 : Int32) = (1 : Int32) := by decide
 have st16 : own_K p e below T13 m 29 #[rv bx, rv bv, .unset, .unset] [] B0 := fun t kt => st14 t (by
  refine XS.icmpNo X13.here hx rfl (hb hby d24_26) rfl (teq hc15).2 ?_
  exact kt)
 obtain ⟨T17, h17, X17, e17, E17, A17, D17, -, ls17⟩ := newO X13 hx hZ hown (own_w hw 67 rfl) (own_w hw 68 rfl) (own_w hw 63 rfl) e13 (g := (mkF m 29 #[rv bx, rv bv, .unset, .unset] [])) rfl (hb hby d24_29) (by decide) (by decide)
 obtain ⟨bn, g17⟩ : ∃ z, z = h0.size := ⟨_, rfl⟩
 rw [← g17] at A17 D17 ls17
 have g_bn : n0 ≤ bn := Nat.le_trans Z0 (Nat.le_of_eq g17.symm)
 have sz_bn : h0.size ≤ bn := Nat.le_trans k0.1 (Nat.le_of_eq g17.symm)
 have f18 := E_bx.ext E17
 have f19 := F_signum_bx.ext E17
 have f20 := F_mag_bx.ext E17
 have f21 := A_mx.ext E17
 have f22 := E_bv.ext E17
 have f24 := F_mag_bv.ext E17
 have f25 := A_mv.ext E17
 have z26 := Nat.le_trans Z0 E17.1
 have k27 := k0.ext E17
 have f28 : Fld Z h17 bn "java/math/BigInteger" "signum" "I" (.int 0) := D17 (Or.inr (own_w hw 81 rfl)) (ty := .int) (by decide)
 have f29 : Fld Z h17 bn "java/math/BigInteger" "mag" "[I" .null := D17 (Or.inr (own_w hw 84 rfl)) (ty := (.array .int)) (by decide)
 have st30 := fun t kt => st16 t (ls17 t kt)
 have st31 : own_K p e below T17 m 34 #[rv bx, rv bv, .unset, .unset] [.ref bx, .ref bn, .ref bn] B0 := fun t kt => st30 t (by
  refine XS.dup X17.here hx rfl (hb hby d24_32) rfl rfl ?_
  refine XS.aloadN X17.here hx rfl (hb hby d24_33) rfl rfl ?_
  exact kt)
 obtain ⟨T32, X32, e32, ls32⟩ := getF X17 hx hZ hown (host := "") (Or.inl (own_w hw 83 rfl)) Via.refl e17 f20 (g := (mkF m 34 #[rv bx, rv bv, .unset, .unset] [.ref bx, .ref bn, .ref bn])) rfl rfl (hb hby d24_34)
 have st33 := fun t kt => st31 t (ls32 t kt)
 have st34 : own_K p e below T32 m 38 #[rv bx, rv bv, .unset, .unset] [.ref bv, .ref mx, .ref bn, .ref bn] B0 := fun t kt => st33 t (by
  refine XS.aloadN X32.here hx rfl (hb hby d24_37) rfl rfl ?_
  exact kt)
 obtain ⟨T35, X35, e35, ls35⟩ := getF X32 hx hZ hown (host := "") (Or.inl (own_w hw 83 rfl)) Via.refl e32 f24 (g := (mkF m 38 #[rv bx, rv bv, .unset, .unset] [.ref bv, .ref mx, .ref bn, .ref bn])) rfl rfl (hb hby d24_38)
 have st36 := fun t kt => st34 t (ls35 t kt)
 have lt37_bx := f18.lt
 have lt37_mx := f21.lt
 have lt37_bv := f22.lt
 have lt37_mv := f25.lt
 have lt37_bn := A17.lt
 obtain ⟨_, _, ⟨T37, L37, k37, n37⟩, -, X37, ⟨Lc37, hQ37, l37, y37, z37⟩, ls37⟩ := Jvm.LawKit.callS X35 hx (y := (⟨"java/math/BigInteger", "add", "([I[I)[I"⟩ : MethodName)) hown (mvT hZ (own_w hw 121 rfl)) (mvT hZ (own_w hw 122 rfl)) (mvT hZ (own_w hw 63 rfl)) (mvT hZ (own_w hw 123 rfl)) (by decide) (backOf (W := 2) (rm_ad2 l Z a0 hw [] mx mv f h17 n0 z26 f21 f25) hZ (own_w hw 123 rfl) (own_w hw 63 rfl) (by decide) (by decide)) (g := (mkF m 41 #[rv bx, rv bv, .unset, .unset] [.ref mv, .ref mx, .ref bn, .ref bn])) rfl (by rw [hml]; rfl) (argsL := [.ref mx, .ref mv]) (rest := [.ref bn, .ref bn]) (lenOf own_pd6 rfl) rfl (by show 2 * 0 + _ ≤ _; exact Nat.le_of_eq rfl) (hb hby d24_41) (fun _ _ => ⟨rfl, e35, (by decide : 1 + 1 ≤ _), (by decide : 6 + 4 ≤ _)⟩)
 dsimp only [Pt.U, Pt.locs, Pt.cells, Pt.slots] at X37 l37 y37 z37 ls37 hQ37
 subst l37 y37 z37
 obtain ⟨rq37, rfl, Nq37, Kq37, gq37, sq37, Aq37⟩ := hQ37
 have N37 := Fr.app N0 Nq37
 have f39 := f19.keep Kq37 nin0
 have f46 := A17.keep Kq37
 have f47 := f28.keep Kq37 nin0
 have f48 := f29.keep Kq37 nin0
 have z49 := Nat.le_trans z26 Kq37.1
 have k50 := Keep.trans k27 Kq37 all0
 have ne_bn_rq37 : bn ≠ rq37 := Nat.ne_of_lt (Nat.lt_of_lt_of_le lt37_bn sq37)
 have sz_rq37 : h0.size ≤ rq37 := Nat.le_trans k27.1 sq37
 have st51 := fun t kt => st36 t (ls37 t kt)
 have g_rq37 := gq37
 have st52 : own_K p e below T37 m 45 #[rv bx, rv bv, .unset, .unset] [.ref bx, .ref rq37, .ref bn, .ref bn] B0 := fun t kt => st51 t (by
  refine XS.aloadN X37.here hx rfl (hb hby d24_44) rfl rfl ?_
  exact kt)
 obtain ⟨T53, X53, e53, ls53⟩ := getF X37 hx hZ hown (host := "") (Or.inl (own_w hw 80 rfl)) Via.refl rfl f39 (g := (mkF m 45 #[rv bx, rv bv, .unset, .unset] [.ref bx, .ref rq37, .ref bn, .ref bn])) rfl rfl (hb hby d24_45)
 have st54 := fun t kt => st52 t (ls53 t kt)
 obtain ⟨_, _, ⟨T55, L55, k55, n55⟩, -, X55, ⟨Lc55, hQ55, l55, y55, z55⟩, ls55⟩ := X53.specialBack hx (y := (⟨"java/math/BigInteger", "<init>", "([II)V"⟩ : MethodName)) rfl hown (mvT hZ (own_w hw 112 rfl)) (mvT hZ (own_w hw 113 rfl)) (mvT hZ (own_w hw 114 rfl)) (by decide) (backOf (W := 1) (rm_i4 l Z a0 hw [] bn rq37 ((1 : Int32)) ((fun q => .int (own_ad2 f q))) T37.heap n0 z49 f46 g_bn f47 f48 Aq37 ne_bn_rq37) hZ (own_w hw 114 rfl) (own_w hw 63 rfl) (by decide) (by decide)) (g := (mkF m 48 #[rv bx, rv bv, .unset, .unset] [.int 1, .ref rq37, .ref bn, .ref bn])) rfl (by rw [hml]; rfl) (Steps.refl _) (a := bn) (argsL := [.ref rq37, .int 1]) (rest := [.ref bn]) (lenOf own_pd2 rfl) rfl (by show 2 * 0 + _ ≤ _; exact Nat.le_of_eq rfl) (hb hby d24_48) (fun _ _ => ⟨rfl, e53, (by decide : 2 + 0 ≤ _), (by decide : 10 + 0 ≤ _)⟩)
 dsimp only [Pt.U, Pt.locs, Pt.cells, Pt.slots] at X55 l55 y55 z55 ls55 hQ55
 subst l55 y55 z55
 obtain ⟨rfl, Nq55, Kq55, Fq55_signum, Fq55_mag⟩ := hQ55
 have N55 := Fr.app N37 Nq55
 have f64 := f46.keep Kq55
 have f67 := Aq37.keep Kq55 (ninS (Ne.symm ne_bn_rq37) nin0)
 have z68 := Nat.le_trans z49 Kq55.1
 have k69 := Keep.trans k50 Kq55 (allS (P := fun x => x ∈ [] ∨ h0.size ≤ x) (Or.inr sz_bn) all0)
 have st70 : own_K p e below T55 m 51 #[rv bx, rv bv, .unset, .unset] [.ref bn] B0 := fun t kt => st54 t (ls55.trans kt)
 obtain ⟨fs, hr, hrun, hended, hW, hsame⟩ := X55.leave (v := (some (.ref bn))) (fun h => by rw [Bd.returns] at h; cases h)
 subst hB0
 refine ⟨_, _, st70 _ ?_, hrun, hended, _, _, rfl, ?_, ⟨_, rfl⟩, hW, hsame.mono (by decide) (by decide)⟩
 ·exact retOut X55 hx Bd.returns rfl (Or.inr (Or.inr (Or.inr (Or.inr ⟨rfl, rfl, rfl⟩)))) (hb hby d24_51) hr
 ·show Q_rm_adp2 Z bx bv mx mv f h0 n0 _ T55.heap _
  skip
  exact ⟨_, _, rfl, N55, k69, ⟨f64, Fq55_signum, Fq55_mag, f67⟩, g_bn, g_rq37⟩
def Q_rm_adm1 (Z : State) (bx : Addr) (bv : Addr) (mx : Addr) (mv : Addr) (f : Nat → Int32) (h0 : Heap) (n0 : Nat) (v : Option Value) (h : Heap) (L : List Loc) : Prop := ∃ bq mq, v = some (.ref bq) ∧ Fr n0 L ∧ Keep h0 h [] ∧ own_BI Z h bq mq 1 4 (own_sb1 f) ∧ n0 ≤ bq ∧ n0 ≤ mq
set_option maxRecDepth 65536 in
set_option maxHeartbeats 40000000 in
theorem rm_adm1 (l : Launch) (Z : State) (a0 : Array Value) (hw : ∀ d ∈ tables_1, d.before a0 Z = true) (ws : List Jvm.Cond) (bx : Addr) (bv : Addr) (mx : Addr) (mv : Addr) (f : Nat → Int32) (h0 : Heap) (n0 : Nat) (Z0 : n0 ≤ h0.size) (E_bx : Exa Z h0 bx "java/math/BigInteger") (F_signum_bx : Fld Z h0 bx "java/math/BigInteger" "signum" "I" (.int (-1 : Int32))) (F_mag_bx : Fld Z h0 bx "java/math/BigInteger" "mag" "[I" (.ref mx)) (A_mx : own_Av Z h0 mx .int 1 (fun q => .int (f q))) (E_bv : Exa Z h0 bv "java/math/BigInteger") (F_signum_bv : Fld Z h0 bv "java/math/BigInteger" "signum" "I" (.int 1)) (F_mag_bv : Fld Z h0 bv "java/math/BigInteger" "mag" "[I" (.ref mv)) (A_mv : own_Av Z h0 mv .int 4 (fun q => .int ((own_w4 1073741823 (-1) 0 1) q))) :
  MetFree l (⟨"java/math/BigInteger", "add", "(Ljava/math/BigInteger;)Ljava/math/BigInteger;"⟩ : MethodName) (head1 (Jvm.Cond.code (⟨"java/math/BigInteger", "add", "(Ljava/math/BigInteger;)Ljava/math/BigInteger;"⟩ : MethodName) jdk_2097_method_32_code 4 (some (.object "java/math/BigInteger")) :: ws) ({ frames := 3, cells := 2, slots := 10, locals := 39 } : Room)) (fun a U => a = #[.ref bx, .ref bv] ∧ Z.Warmed39 U.vm ∧ U.heap = h0) (fun _ _ _ _ _ => True) (fun _ U o U' => ∃ v L, o = .returned v ∧ Q_rm_adm1 Z bx bv mx mv f h0 n0 v U'.heap L ∧ FrameEnd U o U' L ({ frames := 3, cells := 2, slots := 10, locals := 39 } : Room).cells ({ frames := 3, cells := 2, slots := 10, locals := 39 } : Room).slots) := by
 refine MetFree.of_bodySF (plainFor_of_name own_pn1) hisR ?_
 intro p e s m args below meth c s₁ Bd hml0 hP hK
 obtain ⟨rfl, hZ, hh⟩ := hP
 have hx := Bd.exec
 have hby := Bd.bytes
 have hml : c.maxLocals = 4 := hml0
 have hown : s.vm.findClass "java/math/BigInteger" = some m.cls := findClass_of_methodNamed Bd.named
 have hnm := (name_of_methodNamed Bd.named Bd.method).1
 have X0 : Stand p l e ({ frames := 3, cells := 2, slots := 10, locals := 39 } : Room) s m #[.ref bx, .ref bv] below meth c s₁ [] 0 0 := Stand.of_body Bd
 have e0 : s₁.heap = h0 := by rw [← hh, Bd.state]; rfl
 have N0 := Fr.nil n0
 obtain ⟨B0, hB0⟩ : ∃ B, B = (s₁.setTop (entryFrame m #[.ref bx, .ref bv] 4)) := ⟨_, rfl⟩
 have st0 : own_K p e below s₁ m 0 #[rv bx, rv bv, .unset, .unset] [] B0 := fun t kk0 => hB0 ▸ castTop (own_ef24_RR m bx bv) kk0
 have k0 : Keep h0 h0 [] := Keep.refl _ _
 have st1 : own_K p e below s₁ m 1 #[rv bx, rv bv, .unset, .unset] [.ref bv] B0 := fun t kt => st0 t (by
  refine XS.aloadN X0.here hx rfl (hb hby d24_0) rfl rfl ?_
  exact kt)
 obtain ⟨T2, X2, e2, ls2⟩ := getF X0 hx hZ hown (host := "") (Or.inl (own_w hw 80 rfl)) Via.refl e0 F_signum_bv (g := (mkF m 1 #[rv bx, rv bv, .unset, .unset] [.ref bv])) rfl rfl (hb hby d24_1)
 have st3 := fun t kt => st1 t (ls2 t kt)
 have hc4 : ¬ ((1 : Int32) = (0 : Int32)) := by decide
 have st5 : own_K p e below T2 m 10 #[rv bx, rv bv, .unset, .unset] [.ref bx] B0 := fun t kt => st3 t (by
  refine XS.ifYes X2.here hx rfl (pc0 := 4) (pc' := 9) rfl (hb hby d24_4) rfl ((if0 _ _).trans (feq hc4).2) (by decide) (by decide) ?_
  refine XS.aloadN X2.here hx rfl (hb hby d24_9) rfl rfl ?_
  exact kt)
 obtain ⟨T6, X6, e6, ls6⟩ := getF X2 hx hZ hown (host := "") (Or.inl (own_w hw 80 rfl)) Via.refl e2 F_signum_bx (g := (mkF m 10 #[rv bx, rv bv, .unset, .unset] [.ref bx])) rfl rfl (hb hby d24_10)
 have st7 := fun t kt => st5 t (ls6 t kt)
 have hc8 : ¬ ((-1 : Int32) = (0 : Int32)) := by decide
 have st9 : own_K p e below T6 m 19 #[rv bx, rv bv, .unset, .unset] [.ref bv] B0 := fun t kt => st7 t (by
  refine XS.ifYes X6.here hx rfl (pc0 := 13) (pc' := 18) rfl (hb hby d24_13) rfl ((if0 _ _).trans (feq hc8).2) (by decide) (by decide) ?_
  refine XS.aloadN X6.here hx rfl (hb hby d24_18) rfl rfl ?_
  exact kt)
 obtain ⟨T10, X10, e10, ls10⟩ := getF X6 hx hZ hown (host := "") (Or.inl (own_w hw 80 rfl)) Via.refl e6 F_signum_bv (g := (mkF m 19 #[rv bx, rv bv, .unset, .unset] [.ref bv])) rfl rfl (hb hby d24_19)
 have st11 := fun t kt => st9 t (ls10 t kt)
 have st12 : own_K p e below T10 m 23 #[rv bx, rv bv, .unset, .unset] [.ref bx, .int 1] B0 := fun t kt => st11 t (by
  refine XS.aloadN X10.here hx rfl (hb hby d24_22) rfl rfl ?_
  exact kt)
 obtain ⟨T13, X13, e13, ls13⟩ := getF X10 hx hZ hown (host := "") (Or.inl (own_w hw 80 rfl)) Via.refl e10 F_signum_bx (g := (mkF m 23 #[rv bx, rv bv, .unset, .unset] [.ref bx, .int 1])) rfl rfl (hb hby d24_23)
 have st14 := fun t kt => st12 t (ls13 t kt)
 have hc15 : ¬ ((1 : Int32) = (-1 : Int32)) := by decide
 have st16 : own_K p e below T13 m 54 #[rv bx, rv bv, .unset, .unset] [.ref bv, .ref bx] B0 := fun t kt => st14 t (by
  refine XS.icmpYes X13.here hx rfl (pc0 := 26) (pc' := 52) rfl (hb hby d24_26) rfl (feq hc15).2 (by decide) (by decide) ?_
  refine XS.aloadN X13.here hx rfl (hb hby d24_52) rfl rfl ?_
  refine XS.aloadN X13.here hx rfl (hb hby d24_53) rfl rfl ?_
  exact kt)
 obtain ⟨cq17, kq17, q17a, q17b, q17c⟩ := isOf hZ e13 E_bx
 obtain ⟨_, _, ⟨T17, L17, k17, n17⟩, -, X17, ⟨Lc17, hQ17, l17, y17, z17⟩, ls17⟩ := X13.virtualBack hx (y := (⟨"java/math/BigInteger", "compareMagnitude", "(Ljava/math/BigInteger;)I"⟩ : MethodName)) (z := (⟨"java/math/BigInteger", "compareMagnitude", "(Ljava/math/BigInteger;)I"⟩ : MethodName)) hown (mvT hZ (own_w hw 129 rfl)) (mvT hZ (own_w hw 130 rfl)) (notFace_of_selects (args := #[]) (mvT hZ (own_w hw 132 rfl))) (mvT hZ (own_w hw 132 rfl)) (mvT hZ (own_w hw 131 rfl)) (by decide) (backOf (W := 0) (rm_cm1 l Z a0 hw [] bx bv mx mv f ((own_w4 1073741823 (-1) 0 1)) h0 n0 Z0 F_mag_bx A_mx F_mag_bv A_mv) hZ (own_w hw 133 rfl) (own_w hw 63 rfl) (by decide) (by decide)) q17a q17c (g := (mkF m 54 #[rv bx, rv bv, .unset, .unset] [.ref bv, .ref bx])) rfl (by rw [hml]; rfl) (Steps.refl _) (argsL := [.ref bv]) (rest := []) (lenOf own_pd7 rfl) rfl (by show 2 * 0 + _ ≤ _; exact Nat.le_of_eq rfl) (hb hby d24_54) (fun _ _ => ⟨rfl, e13, (by decide : 0 + 0 ≤ _), (by decide : 0 + 0 ≤ _)⟩)
 dsimp only [Pt.U, Pt.locs, Pt.cells, Pt.slots] at X17 l17 y17 z17 ls17 hQ17
 subst l17 y17 z17
 obtain ⟨rfl, Nq17, eq17⟩ := hQ17
 have N17 := Fr.app N0 Nq17
 have st18 : own_K p e below T17 m 57 #[rv bx, rv bv, .unset, .unset] [.int (-1 : Int32)] B0 := fun t kt => st16 t (ls17.trans kt)
 have hc19 : ¬ ((-1 : Int32) = (0 : Int32)) := by decide
 have hc20 : ¬ ((0 : Int32) < (-1 : Int32)) := by decide
 have st21 : own_K p e below T17 m 85 #[rv bx, rv bv, iv (-1 : Int32), .unset] [.ref bv] B0 := fun t kt => st18 t (by
  refine XS.istoreN X17.here hx rfl (hb hby d24_57) rfl (l' := #[rv bx, rv bv, iv (-1 : Int32), .unset]) rfl ?_
  refine XS.iloadN X17.here hx rfl (hb hby d24_58) rfl ?_
  refine XS.ifYes X17.here hx rfl (pc0 := 59) (pc' := 66) rfl (hb hby d24_59) rfl ((if0 _ _).trans (feq hc19).2) (by decide) (by decide) ?_
  refine XS.iloadN X17.here hx rfl (hb hby d24_66) rfl ?_
  refine XS.ifYes X17.here hx rfl (pc0 := 67) (pc' := 84) rfl (hb hby d24_67) rfl ((if0 _ _).trans (flt hc20).2.2.2) (by decide) (by decide) ?_
  refine XS.aloadN X17.here hx rfl (hb hby d24_84) rfl rfl ?_
  exact kt)
 obtain ⟨T22, X22, e22, ls22⟩ := getF X17 hx hZ hown (host := "") (Or.inl (own_w hw 83 rfl)) Via.refl eq17 F_mag_bv (g := (mkF m 85 #[rv bx, rv bv, iv (-1 : Int32), .unset] [.ref bv])) rfl rfl (hb hby d24_85)
 have st23 := fun t kt => st21 t (ls22 t kt)
 have st24 : own_K p e below T22 m 89 #[rv bx, rv bv, iv (-1 : Int32), .unset] [.ref bx, .ref mv] B0 := fun t kt => st23 t (by
  refine XS.aloadN X22.here hx rfl (hb hby d24_88) rfl rfl ?_
  exact kt)
 obtain ⟨T25, X25, e25, ls25⟩ := getF X22 hx hZ hown (host := "") (Or.inl (own_w hw 83 rfl)) Via.refl e22 F_mag_bx (g := (mkF m 89 #[rv bx, rv bv, iv (-1 : Int32), .unset] [.ref bx, .ref mv])) rfl rfl (hb hby d24_89)
 have st26 := fun t kt => st24 t (ls25 t kt)
 obtain ⟨_, _, ⟨T27, L27, k27, n27⟩, -, X27, ⟨Lc27, hQ27, l27, y27, z27⟩, ls27⟩ := Jvm.LawKit.callS X25 hx (y := (⟨"java/math/BigInteger", "subtract", "([I[I)[I"⟩ : MethodName)) hown (mvT hZ (own_w hw 135 rfl)) (mvT hZ (own_w hw 136 rfl)) (mvT hZ (own_w hw 63 rfl)) (mvT hZ (own_w hw 137 rfl)) (by decide) (backOf (W := 0) (rm_sb1 l Z a0 hw [] mv mx f h0 n0 Z0 A_mv A_mx) hZ (own_w hw 137 rfl) (own_w hw 63 rfl) (by decide) (by decide)) (g := (mkF m 92 #[rv bx, rv bv, iv (-1 : Int32), .unset] [.ref mx, .ref mv])) rfl (by rw [hml]; rfl) (argsL := [.ref mv, .ref mx]) (rest := []) (lenOf own_pd6 rfl) rfl (by show 2 * 0 + _ ≤ _; exact Nat.le_of_eq rfl) (hb hby d24_92) (fun _ _ => ⟨rfl, e25, (by decide : 0 + 1 ≤ _), (by decide : 0 + 4 ≤ _)⟩)
 dsimp only [Pt.U, Pt.locs, Pt.cells, Pt.slots] at X27 l27 y27 z27 ls27 hQ27
 subst l27 y27 z27
 obtain ⟨rq27, rfl, Nq27, Kq27, gq27, Aq27⟩ := hQ27
 have N27 := Fr.app N17 Nq27
 have f29 := F_signum_bx.keep Kq27 nin0
 have z36 := Nat.le_trans Z0 Kq27.1
 have k37 := Keep.trans k0 Kq27 all0
 have st38 := fun t kt => st26 t (ls27 t kt)
 have g_rq27 := gq27
 have st39 : own_K p e below T27 m 97 #[rv bx, rv bv, iv (-1 : Int32), rv rq27] [.ref rq27] B0 := fun t kt => st38 t (by
  refine XS.astoreN X27.here hx rfl (hb hby d24_95) rfl rfl (l' := #[rv bx, rv bv, iv (-1 : Int32), rv rq27]) rfl ?_
  refine XS.aloadN X27.here hx rfl (hb hby d24_96) rfl rfl ?_
  exact kt)
 obtain ⟨_, _, ⟨T40, L40, k40, n40⟩, -, X40, ⟨Lc40, hQ40, l40, y40, z40⟩, ls40⟩ := Jvm.LawKit.callS X27 hx (y := (⟨"java/math/BigInteger", "trustedStripLeadingZeroInts", "([I)[I"⟩ : MethodName)) hown (mvT hZ (own_w hw 109 rfl)) (mvT hZ (own_w hw 110 rfl)) (mvT hZ (own_w hw 63 rfl)) (mvT hZ (own_w hw 111 rfl)) (by decide) (backOf (W := 0) (rm_ts l Z a0 hw [] rq27 ((own_sb1 f)) T27.heap n0 z36 Aq27 (own_sb1_0 f)) hZ (own_w hw 111 rfl) (own_w hw 63 rfl) (by decide) (by decide)) (g := (mkF m 97 #[rv bx, rv bv, iv (-1 : Int32), rv rq27] [.ref rq27])) rfl (by rw [hml]; rfl) (argsL := [.ref rq27]) (rest := []) (lenOf own_pd4 rfl) rfl (by show 2 * 0 + _ ≤ _; exact Nat.le_of_eq rfl) (hb hby d24_97) (fun _ _ => ⟨rfl, rfl, (by decide : 1 + 0 ≤ _), (by decide : 4 + 0 ≤ _)⟩)
 dsimp only [Pt.U, Pt.locs, Pt.cells, Pt.slots] at X40 l40 y40 z40 ls40 hQ40
 subst l40 y40 z40
 obtain ⟨rfl, Nq40, eq40⟩ := hQ40
 have N40 := Fr.app N27 Nq40
 have st41 := fun t kt => st39 t (ls40 t kt)
 have st42 : own_K p e below T40 m 101 #[rv bx, rv bv, iv (-1 : Int32), rv rq27] [] B0 := fun t kt => st41 t (by
  refine XS.astoreN X40.here hx rfl (hb hby d24_100) rfl rfl (l' := #[rv bx, rv bv, iv (-1 : Int32), rv rq27]) rfl ?_
  exact kt)
 obtain ⟨T43, h43, X43, e43, E43, A43, D43, -, ls43⟩ := newO X40 hx hZ hown (own_w hw 67 rfl) (own_w hw 68 rfl) (own_w hw 63 rfl) eq40 (g := (mkF m 101 #[rv bx, rv bv, iv (-1 : Int32), rv rq27] [])) rfl (hb hby d24_101) (by decide) (by decide)
 obtain ⟨bn, g43⟩ : ∃ z, z = T27.heap.size := ⟨_, rfl⟩
 rw [← g43] at A43 D43 ls43
 have ne_rq27_bn : rq27 ≠ bn := Nat.ne_of_lt (Nat.lt_of_lt_of_le Aq27.lt (Nat.le_of_eq g43.symm))
 have g_bn : n0 ≤ bn := Nat.le_trans z36 (Nat.le_of_eq g43.symm)
 have sz_bn : h0.size ≤ bn := Nat.le_trans k37.1 (Nat.le_of_eq g43.symm)
 have f45 := f29.ext E43
 have f52 := Aq27.ext E43
 have z53 := Nat.le_trans z36 E43.1
 have k54 := k37.ext E43
 have f55 : Fld Z h43 bn "java/math/BigInteger" "signum" "I" (.int 0) := D43 (Or.inr (own_w hw 81 rfl)) (ty := .int) (by decide)
 have f56 : Fld Z h43 bn "java/math/BigInteger" "mag" "[I" .null := D43 (Or.inr (own_w hw 84 rfl)) (ty := (.array .int)) (by decide)
 have st57 := fun t kt => st42 t (ls43 t kt)
 have st58 : own_K p e below T43 m 108 #[rv bx, rv bv, iv (-1 : Int32), rv rq27] [.ref bx, .int (-1 : Int32), .ref rq27, .ref bn, .ref bn] B0 := fun t kt => st57 t (by
  refine XS.dup X43.here hx rfl (hb hby d24_104) rfl rfl ?_
  refine XS.aloadN X43.here hx rfl (hb hby d24_105) rfl rfl ?_
  refine XS.iloadN X43.here hx rfl (hb hby d24_106) rfl ?_
  refine XS.aloadN X43.here hx rfl (hb hby d24_107) rfl rfl ?_
  exact kt)
 obtain ⟨T59, X59, e59, ls59⟩ := getF X43 hx hZ hown (host := "") (Or.inl (own_w hw 80 rfl)) Via.refl e43 f45 (g := (mkF m 108 #[rv bx, rv bv, iv (-1 : Int32), rv rq27] [.ref bx, .int (-1 : Int32), .ref rq27, .ref bn, .ref bn])) rfl rfl (hb hby d24_108)
 have st60 := fun t kt => st58 t (ls59 t kt)
 have hc61 : (-1 : Int32) = (-1 : Int32) := rfl
 have st62 : own_K p e below T59 m 119 #[rv bx, rv bv, iv (-1 : Int32), rv rq27] [.int 1, .ref rq27, .ref bn, .ref bn] B0 := fun t kt => st60 t (by
  refine XS.icmpNo X59.here hx rfl (hb hby d24_111) rfl (teq hc61).2 ?_
  refine XS.iconst X59.here hx rfl (hb hby d24_114) ?_
  refine XS.goto X59.here hx rfl (pc0 := 115) (pc' := 119) rfl (hb hby d24_115) (by decide) (by decide) ?_
  exact kt)
 obtain ⟨_, _, ⟨T63, L63, k63, n63⟩, -, X63, ⟨Lc63, hQ63, l63, y63, z63⟩, ls63⟩ := X59.specialBack hx (y := (⟨"java/math/BigInteger", "<init>", "([II)V"⟩ : MethodName)) rfl hown (mvT hZ (own_w hw 112 rfl)) (mvT hZ (own_w hw 113 rfl)) (mvT hZ (own_w hw 114 rfl)) (by decide) (backOf (W := 1) (rm_i4 l Z a0 hw [] bn rq27 ((1 : Int32)) ((fun q => .int (own_sb1 f q))) h43 n0 z53 A43 g_bn f55 f56 f52 ((Ne.symm ne_rq27_bn))) hZ (own_w hw 114 rfl) (own_w hw 63 rfl) (by decide) (by decide)) (g := (mkF m 119 #[rv bx, rv bv, iv (-1 : Int32), rv rq27] [.int 1, .ref rq27, .ref bn, .ref bn])) rfl (by rw [hml]; rfl) (Steps.refl _) (a := bn) (argsL := [.ref rq27, .int 1]) (rest := [.ref bn]) (lenOf own_pd2 rfl) rfl (by show 2 * 0 + _ ≤ _; exact Nat.le_of_eq rfl) (hb hby d24_119) (fun _ _ => ⟨rfl, e59, (by decide : 2 + 0 ≤ _), (by decide : 10 + 0 ≤ _)⟩)
 dsimp only [Pt.U, Pt.locs, Pt.cells, Pt.slots] at X63 l63 y63 z63 ls63 hQ63
 subst l63 y63 z63
 obtain ⟨rfl, Nq63, Kq63, Fq63_signum, Fq63_mag⟩ := hQ63
 have N63 := Fr.app N40 Nq63
 have f72 := f52.keep Kq63 (ninS ne_rq27_bn nin0)
 have f73 := A43.keep Kq63
 have z76 := Nat.le_trans z53 Kq63.1
 have k77 := Keep.trans k54 Kq63 (allS (P := fun x => x ∈ [] ∨ h0.size ≤ x) (Or.inr sz_bn) all0)
 have st78 : own_K p e below T63 m 122 #[rv bx, rv bv, iv (-1 : Int32), rv rq27] [.ref bn] B0 := fun t kt => st62 t (ls63.trans kt)
 obtain ⟨fs, hr, hrun, hended, hW, hsame⟩ := X63.leave (v := (some (.ref bn))) (fun h => by rw [Bd.returns] at h; cases h)
 subst hB0
 refine ⟨_, _, st78 _ ?_, hrun, hended, _, _, rfl, ?_, ⟨_, rfl⟩, hW, hsame.mono (by decide) (by decide)⟩
 ·exact retOut X63 hx Bd.returns rfl (Or.inr (Or.inr (Or.inr (Or.inr ⟨rfl, rfl, rfl⟩)))) (hb hby d24_122) hr
 ·show Q_rm_adm1 Z bx bv mx mv f h0 n0 _ T63.heap _
  skip
  exact ⟨_, _, rfl, N63, k77, ⟨f73, Fq63_signum, Fq63_mag, f72⟩, g_bn, g_rq27⟩
def Q_rm_adm2 (Z : State) (bx : Addr) (bv : Addr) (mx : Addr) (mv : Addr) (f : Nat → Int32) (h0 : Heap) (n0 : Nat) (v : Option Value) (h : Heap) (L : List Loc) : Prop := ∃ bq mq, v = some (.ref bq) ∧ Fr n0 L ∧ Keep h0 h [] ∧ own_BI Z h bq mq 1 4 (own_sb2 f) ∧ n0 ≤ bq ∧ n0 ≤ mq
set_option maxRecDepth 65536 in
set_option maxHeartbeats 40000000 in
theorem rm_adm2 (l : Launch) (Z : State) (a0 : Array Value) (hw : ∀ d ∈ tables_1, d.before a0 Z = true) (ws : List Jvm.Cond) (bx : Addr) (bv : Addr) (mx : Addr) (mv : Addr) (f : Nat → Int32) (h0 : Heap) (n0 : Nat) (Z0 : n0 ≤ h0.size) (E_bx : Exa Z h0 bx "java/math/BigInteger") (F_signum_bx : Fld Z h0 bx "java/math/BigInteger" "signum" "I" (.int (-1 : Int32))) (F_mag_bx : Fld Z h0 bx "java/math/BigInteger" "mag" "[I" (.ref mx)) (A_mx : own_Av Z h0 mx .int 2 (fun q => .int (f q))) (E_bv : Exa Z h0 bv "java/math/BigInteger") (F_signum_bv : Fld Z h0 bv "java/math/BigInteger" "signum" "I" (.int 1)) (F_mag_bv : Fld Z h0 bv "java/math/BigInteger" "mag" "[I" (.ref mv)) (A_mv : own_Av Z h0 mv .int 4 (fun q => .int ((own_w4 1073741823 (-1) 0 1) q))) :
  MetFree l (⟨"java/math/BigInteger", "add", "(Ljava/math/BigInteger;)Ljava/math/BigInteger;"⟩ : MethodName) (head1 (Jvm.Cond.code (⟨"java/math/BigInteger", "add", "(Ljava/math/BigInteger;)Ljava/math/BigInteger;"⟩ : MethodName) jdk_2097_method_32_code 4 (some (.object "java/math/BigInteger")) :: ws) ({ frames := 3, cells := 2, slots := 10, locals := 39 } : Room)) (fun a U => a = #[.ref bx, .ref bv] ∧ Z.Warmed39 U.vm ∧ U.heap = h0) (fun _ _ _ _ _ => True) (fun _ U o U' => ∃ v L, o = .returned v ∧ Q_rm_adm2 Z bx bv mx mv f h0 n0 v U'.heap L ∧ FrameEnd U o U' L ({ frames := 3, cells := 2, slots := 10, locals := 39 } : Room).cells ({ frames := 3, cells := 2, slots := 10, locals := 39 } : Room).slots) := by
 refine MetFree.of_bodySF (plainFor_of_name own_pn1) hisR ?_
 intro p e s m args below meth c s₁ Bd hml0 hP hK
 obtain ⟨rfl, hZ, hh⟩ := hP
 have hx := Bd.exec
 have hby := Bd.bytes
 have hml : c.maxLocals = 4 := hml0
 have hown : s.vm.findClass "java/math/BigInteger" = some m.cls := findClass_of_methodNamed Bd.named
 have hnm := (name_of_methodNamed Bd.named Bd.method).1
 have X0 : Stand p l e ({ frames := 3, cells := 2, slots := 10, locals := 39 } : Room) s m #[.ref bx, .ref bv] below meth c s₁ [] 0 0 := Stand.of_body Bd
 have e0 : s₁.heap = h0 := by rw [← hh, Bd.state]; rfl
 have N0 := Fr.nil n0
 obtain ⟨B0, hB0⟩ : ∃ B, B = (s₁.setTop (entryFrame m #[.ref bx, .ref bv] 4)) := ⟨_, rfl⟩
 have st0 : own_K p e below s₁ m 0 #[rv bx, rv bv, .unset, .unset] [] B0 := fun t kk0 => hB0 ▸ castTop (own_ef24_RR m bx bv) kk0
 have k0 : Keep h0 h0 [] := Keep.refl _ _
 have st1 : own_K p e below s₁ m 1 #[rv bx, rv bv, .unset, .unset] [.ref bv] B0 := fun t kt => st0 t (by
  refine XS.aloadN X0.here hx rfl (hb hby d24_0) rfl rfl ?_
  exact kt)
 obtain ⟨T2, X2, e2, ls2⟩ := getF X0 hx hZ hown (host := "") (Or.inl (own_w hw 80 rfl)) Via.refl e0 F_signum_bv (g := (mkF m 1 #[rv bx, rv bv, .unset, .unset] [.ref bv])) rfl rfl (hb hby d24_1)
 have st3 := fun t kt => st1 t (ls2 t kt)
 have hc4 : ¬ ((1 : Int32) = (0 : Int32)) := by decide
 have st5 : own_K p e below T2 m 10 #[rv bx, rv bv, .unset, .unset] [.ref bx] B0 := fun t kt => st3 t (by
  refine XS.ifYes X2.here hx rfl (pc0 := 4) (pc' := 9) rfl (hb hby d24_4) rfl ((if0 _ _).trans (feq hc4).2) (by decide) (by decide) ?_
  refine XS.aloadN X2.here hx rfl (hb hby d24_9) rfl rfl ?_
  exact kt)
 obtain ⟨T6, X6, e6, ls6⟩ := getF X2 hx hZ hown (host := "") (Or.inl (own_w hw 80 rfl)) Via.refl e2 F_signum_bx (g := (mkF m 10 #[rv bx, rv bv, .unset, .unset] [.ref bx])) rfl rfl (hb hby d24_10)
 have st7 := fun t kt => st5 t (ls6 t kt)
 have hc8 : ¬ ((-1 : Int32) = (0 : Int32)) := by decide
 have st9 : own_K p e below T6 m 19 #[rv bx, rv bv, .unset, .unset] [.ref bv] B0 := fun t kt => st7 t (by
  refine XS.ifYes X6.here hx rfl (pc0 := 13) (pc' := 18) rfl (hb hby d24_13) rfl ((if0 _ _).trans (feq hc8).2) (by decide) (by decide) ?_
  refine XS.aloadN X6.here hx rfl (hb hby d24_18) rfl rfl ?_
  exact kt)
 obtain ⟨T10, X10, e10, ls10⟩ := getF X6 hx hZ hown (host := "") (Or.inl (own_w hw 80 rfl)) Via.refl e6 F_signum_bv (g := (mkF m 19 #[rv bx, rv bv, .unset, .unset] [.ref bv])) rfl rfl (hb hby d24_19)
 have st11 := fun t kt => st9 t (ls10 t kt)
 have st12 : own_K p e below T10 m 23 #[rv bx, rv bv, .unset, .unset] [.ref bx, .int 1] B0 := fun t kt => st11 t (by
  refine XS.aloadN X10.here hx rfl (hb hby d24_22) rfl rfl ?_
  exact kt)
 obtain ⟨T13, X13, e13, ls13⟩ := getF X10 hx hZ hown (host := "") (Or.inl (own_w hw 80 rfl)) Via.refl e10 F_signum_bx (g := (mkF m 23 #[rv bx, rv bv, .unset, .unset] [.ref bx, .int 1])) rfl rfl (hb hby d24_23)
 have st14 := fun t kt => st12 t (ls13 t kt)
 have hc15 : ¬ ((1 : Int32) = (-1 : Int32)) := by decide
 have st16 : own_K p e below T13 m 54 #[rv bx, rv bv, .unset, .unset] [.ref bv, .ref bx] B0 := fun t kt => st14 t (by
  refine XS.icmpYes X13.here hx rfl (pc0 := 26) (pc' := 52) rfl (hb hby d24_26) rfl (feq hc15).2 (by decide) (by decide) ?_
  refine XS.aloadN X13.here hx rfl (hb hby d24_52) rfl rfl ?_
  refine XS.aloadN X13.here hx rfl (hb hby d24_53) rfl rfl ?_
  exact kt)
 obtain ⟨cq17, kq17, q17a, q17b, q17c⟩ := isOf hZ e13 E_bx
 obtain ⟨_, _, ⟨T17, L17, k17, n17⟩, -, X17, ⟨Lc17, hQ17, l17, y17, z17⟩, ls17⟩ := X13.virtualBack hx (y := (⟨"java/math/BigInteger", "compareMagnitude", "(Ljava/math/BigInteger;)I"⟩ : MethodName)) (z := (⟨"java/math/BigInteger", "compareMagnitude", "(Ljava/math/BigInteger;)I"⟩ : MethodName)) hown (mvT hZ (own_w hw 129 rfl)) (mvT hZ (own_w hw 130 rfl)) (notFace_of_selects (args := #[]) (mvT hZ (own_w hw 132 rfl))) (mvT hZ (own_w hw 132 rfl)) (mvT hZ (own_w hw 131 rfl)) (by decide) (backOf (W := 0) (rm_cm2 l Z a0 hw [] bx bv mx mv f ((own_w4 1073741823 (-1) 0 1)) h0 n0 Z0 F_mag_bx A_mx F_mag_bv A_mv) hZ (own_w hw 133 rfl) (own_w hw 63 rfl) (by decide) (by decide)) q17a q17c (g := (mkF m 54 #[rv bx, rv bv, .unset, .unset] [.ref bv, .ref bx])) rfl (by rw [hml]; rfl) (Steps.refl _) (argsL := [.ref bv]) (rest := []) (lenOf own_pd7 rfl) rfl (by show 2 * 0 + _ ≤ _; exact Nat.le_of_eq rfl) (hb hby d24_54) (fun _ _ => ⟨rfl, e13, (by decide : 0 + 0 ≤ _), (by decide : 0 + 0 ≤ _)⟩)
 dsimp only [Pt.U, Pt.locs, Pt.cells, Pt.slots] at X17 l17 y17 z17 ls17 hQ17
 subst l17 y17 z17
 obtain ⟨rfl, Nq17, eq17⟩ := hQ17
 have N17 := Fr.app N0 Nq17
 have st18 : own_K p e below T17 m 57 #[rv bx, rv bv, .unset, .unset] [.int (-1 : Int32)] B0 := fun t kt => st16 t (ls17.trans kt)
 have hc19 : ¬ ((-1 : Int32) = (0 : Int32)) := by decide
 have hc20 : ¬ ((0 : Int32) < (-1 : Int32)) := by decide
 have st21 : own_K p e below T17 m 85 #[rv bx, rv bv, iv (-1 : Int32), .unset] [.ref bv] B0 := fun t kt => st18 t (by
  refine XS.istoreN X17.here hx rfl (hb hby d24_57) rfl (l' := #[rv bx, rv bv, iv (-1 : Int32), .unset]) rfl ?_
  refine XS.iloadN X17.here hx rfl (hb hby d24_58) rfl ?_
  refine XS.ifYes X17.here hx rfl (pc0 := 59) (pc' := 66) rfl (hb hby d24_59) rfl ((if0 _ _).trans (feq hc19).2) (by decide) (by decide) ?_
  refine XS.iloadN X17.here hx rfl (hb hby d24_66) rfl ?_
  refine XS.ifYes X17.here hx rfl (pc0 := 67) (pc' := 84) rfl (hb hby d24_67) rfl ((if0 _ _).trans (flt hc20).2.2.2) (by decide) (by decide) ?_
  refine XS.aloadN X17.here hx rfl (hb hby d24_84) rfl rfl ?_
  exact kt)
 obtain ⟨T22, X22, e22, ls22⟩ := getF X17 hx hZ hown (host := "") (Or.inl (own_w hw 83 rfl)) Via.refl eq17 F_mag_bv (g := (mkF m 85 #[rv bx, rv bv, iv (-1 : Int32), .unset] [.ref bv])) rfl rfl (hb hby d24_85)
 have st23 := fun t kt => st21 t (ls22 t kt)
 have st24 : own_K p e below T22 m 89 #[rv bx, rv bv, iv (-1 : Int32), .unset] [.ref bx, .ref mv] B0 := fun t kt => st23 t (by
  refine XS.aloadN X22.here hx rfl (hb hby d24_88) rfl rfl ?_
  exact kt)
 obtain ⟨T25, X25, e25, ls25⟩ := getF X22 hx hZ hown (host := "") (Or.inl (own_w hw 83 rfl)) Via.refl e22 F_mag_bx (g := (mkF m 89 #[rv bx, rv bv, iv (-1 : Int32), .unset] [.ref bx, .ref mv])) rfl rfl (hb hby d24_89)
 have st26 := fun t kt => st24 t (ls25 t kt)
 obtain ⟨_, _, ⟨T27, L27, k27, n27⟩, -, X27, ⟨Lc27, hQ27, l27, y27, z27⟩, ls27⟩ := Jvm.LawKit.callS X25 hx (y := (⟨"java/math/BigInteger", "subtract", "([I[I)[I"⟩ : MethodName)) hown (mvT hZ (own_w hw 135 rfl)) (mvT hZ (own_w hw 136 rfl)) (mvT hZ (own_w hw 63 rfl)) (mvT hZ (own_w hw 137 rfl)) (by decide) (backOf (W := 0) (rm_sb2 l Z a0 hw [] mv mx f h0 n0 Z0 A_mv A_mx) hZ (own_w hw 137 rfl) (own_w hw 63 rfl) (by decide) (by decide)) (g := (mkF m 92 #[rv bx, rv bv, iv (-1 : Int32), .unset] [.ref mx, .ref mv])) rfl (by rw [hml]; rfl) (argsL := [.ref mv, .ref mx]) (rest := []) (lenOf own_pd6 rfl) rfl (by show 2 * 0 + _ ≤ _; exact Nat.le_of_eq rfl) (hb hby d24_92) (fun _ _ => ⟨rfl, e25, (by decide : 0 + 1 ≤ _), (by decide : 0 + 4 ≤ _)⟩)
 dsimp only [Pt.U, Pt.locs, Pt.cells, Pt.slots] at X27 l27 y27 z27 ls27 hQ27
 subst l27 y27 z27
 obtain ⟨rq27, rfl, Nq27, Kq27, gq27, Aq27⟩ := hQ27
 have N27 := Fr.app N17 Nq27
 have f29 := F_signum_bx.keep Kq27 nin0
 have z36 := Nat.le_trans Z0 Kq27.1
 have k37 := Keep.trans k0 Kq27 all0
 have st38 := fun t kt => st26 t (ls27 t kt)
 have g_rq27 := gq27
 have st39 : own_K p e below T27 m 97 #[rv bx, rv bv, iv (-1 : Int32), rv rq27] [.ref rq27] B0 := fun t kt => st38 t (by
  refine XS.astoreN X27.here hx rfl (hb hby d24_95) rfl rfl (l' := #[rv bx, rv bv, iv (-1 : Int32), rv rq27]) rfl ?_
  refine XS.aloadN X27.here hx rfl (hb hby d24_96) rfl rfl ?_
  exact kt)
 obtain ⟨_, _, ⟨T40, L40, k40, n40⟩, -, X40, ⟨Lc40, hQ40, l40, y40, z40⟩, ls40⟩ := Jvm.LawKit.callS X27 hx (y := (⟨"java/math/BigInteger", "trustedStripLeadingZeroInts", "([I)[I"⟩ : MethodName)) hown (mvT hZ (own_w hw 109 rfl)) (mvT hZ (own_w hw 110 rfl)) (mvT hZ (own_w hw 63 rfl)) (mvT hZ (own_w hw 111 rfl)) (by decide) (backOf (W := 0) (rm_ts l Z a0 hw [] rq27 ((own_sb2 f)) T27.heap n0 z36 Aq27 (own_sb2_0 f)) hZ (own_w hw 111 rfl) (own_w hw 63 rfl) (by decide) (by decide)) (g := (mkF m 97 #[rv bx, rv bv, iv (-1 : Int32), rv rq27] [.ref rq27])) rfl (by rw [hml]; rfl) (argsL := [.ref rq27]) (rest := []) (lenOf own_pd4 rfl) rfl (by show 2 * 0 + _ ≤ _; exact Nat.le_of_eq rfl) (hb hby d24_97) (fun _ _ => ⟨rfl, rfl, (by decide : 1 + 0 ≤ _), (by decide : 4 + 0 ≤ _)⟩)
 dsimp only [Pt.U, Pt.locs, Pt.cells, Pt.slots] at X40 l40 y40 z40 ls40 hQ40
 subst l40 y40 z40
 obtain ⟨rfl, Nq40, eq40⟩ := hQ40
 have N40 := Fr.app N27 Nq40
 have st41 := fun t kt => st39 t (ls40 t kt)
 have st42 : own_K p e below T40 m 101 #[rv bx, rv bv, iv (-1 : Int32), rv rq27] [] B0 := fun t kt => st41 t (by
  refine XS.astoreN X40.here hx rfl (hb hby d24_100) rfl rfl (l' := #[rv bx, rv bv, iv (-1 : Int32), rv rq27]) rfl ?_
  exact kt)
 obtain ⟨T43, h43, X43, e43, E43, A43, D43, -, ls43⟩ := newO X40 hx hZ hown (own_w hw 67 rfl) (own_w hw 68 rfl) (own_w hw 63 rfl) eq40 (g := (mkF m 101 #[rv bx, rv bv, iv (-1 : Int32), rv rq27] [])) rfl (hb hby d24_101) (by decide) (by decide)
 obtain ⟨bn, g43⟩ : ∃ z, z = T27.heap.size := ⟨_, rfl⟩
 rw [← g43] at A43 D43 ls43
 have ne_rq27_bn : rq27 ≠ bn := Nat.ne_of_lt (Nat.lt_of_lt_of_le Aq27.lt (Nat.le_of_eq g43.symm))
 have g_bn : n0 ≤ bn := Nat.le_trans z36 (Nat.le_of_eq g43.symm)
 have sz_bn : h0.size ≤ bn := Nat.le_trans k37.1 (Nat.le_of_eq g43.symm)
 have f45 := f29.ext E43
 have f52 := Aq27.ext E43
 have z53 := Nat.le_trans z36 E43.1
 have k54 := k37.ext E43
 have f55 : Fld Z h43 bn "java/math/BigInteger" "signum" "I" (.int 0) := D43 (Or.inr (own_w hw 81 rfl)) (ty := .int) (by decide)
 have f56 : Fld Z h43 bn "java/math/BigInteger" "mag" "[I" .null := D43 (Or.inr (own_w hw 84 rfl)) (ty := (.array .int)) (by decide)
 have st57 := fun t kt => st42 t (ls43 t kt)
 have st58 : own_K p e below T43 m 108 #[rv bx, rv bv, iv (-1 : Int32), rv rq27] [.ref bx, .int (-1 : Int32), .ref rq27, .ref bn, .ref bn] B0 := fun t kt => st57 t (by
  refine XS.dup X43.here hx rfl (hb hby d24_104) rfl rfl ?_
  refine XS.aloadN X43.here hx rfl (hb hby d24_105) rfl rfl ?_
  refine XS.iloadN X43.here hx rfl (hb hby d24_106) rfl ?_
  refine XS.aloadN X43.here hx rfl (hb hby d24_107) rfl rfl ?_
  exact kt)
 obtain ⟨T59, X59, e59, ls59⟩ := getF X43 hx hZ hown (host := "") (Or.inl (own_w hw 80 rfl)) Via.refl e43 f45 (g := (mkF m 108 #[rv bx, rv bv, iv (-1 : Int32), rv rq27] [.ref bx, .int (-1 : Int32), .ref rq27, .ref bn, .ref bn])) rfl rfl (hb hby d24_108)
 have st60 := fun t kt => st58 t (ls59 t kt)
 have hc61 : (-1 : Int32) = (-1 : Int32) := rfl
 have st62 : own_K p e below T59 m 119 #[rv bx, rv bv, iv (-1 : Int32), rv rq27] [.int 1, .ref rq27, .ref bn, .ref bn] B0 := fun t kt => st60 t (by
  refine XS.icmpNo X59.here hx rfl (hb hby d24_111) rfl (teq hc61).2 ?_
  refine XS.iconst X59.here hx rfl (hb hby d24_114) ?_
  refine XS.goto X59.here hx rfl (pc0 := 115) (pc' := 119) rfl (hb hby d24_115) (by decide) (by decide) ?_
  exact kt)
 obtain ⟨_, _, ⟨T63, L63, k63, n63⟩, -, X63, ⟨Lc63, hQ63, l63, y63, z63⟩, ls63⟩ := X59.specialBack hx (y := (⟨"java/math/BigInteger", "<init>", "([II)V"⟩ : MethodName)) rfl hown (mvT hZ (own_w hw 112 rfl)) (mvT hZ (own_w hw 113 rfl)) (mvT hZ (own_w hw 114 rfl)) (by decide) (backOf (W := 1) (rm_i4 l Z a0 hw [] bn rq27 ((1 : Int32)) ((fun q => .int (own_sb2 f q))) h43 n0 z53 A43 g_bn f55 f56 f52 ((Ne.symm ne_rq27_bn))) hZ (own_w hw 114 rfl) (own_w hw 63 rfl) (by decide) (by decide)) (g := (mkF m 119 #[rv bx, rv bv, iv (-1 : Int32), rv rq27] [.int 1, .ref rq27, .ref bn, .ref bn])) rfl (by rw [hml]; rfl) (Steps.refl _) (a := bn) (argsL := [.ref rq27, .int 1]) (rest := [.ref bn]) (lenOf own_pd2 rfl) rfl (by show 2 * 0 + _ ≤ _; exact Nat.le_of_eq rfl) (hb hby d24_119) (fun _ _ => ⟨rfl, e59, (by decide : 2 + 0 ≤ _), (by decide : 10 + 0 ≤ _)⟩)
 dsimp only [Pt.U, Pt.locs, Pt.cells, Pt.slots] at X63 l63 y63 z63 ls63 hQ63
 subst l63 y63 z63
 obtain ⟨rfl, Nq63, Kq63, Fq63_signum, Fq63_mag⟩ := hQ63
 have N63 := Fr.app N40 Nq63
 have f72 := f52.keep Kq63 (ninS ne_rq27_bn nin0)
 have f73 := A43.keep Kq63
 have z76 := Nat.le_trans z53 Kq63.1
 have k77 := Keep.trans k54 Kq63 (allS (P := fun x => x ∈ [] ∨ h0.size ≤ x) (Or.inr sz_bn) all0)
 have st78 : own_K p e below T63 m 122 #[rv bx, rv bv, iv (-1 : Int32), rv rq27] [.ref bn] B0 := fun t kt => st62 t (ls63.trans kt)
 obtain ⟨fs, hr, hrun, hended, hW, hsame⟩ := X63.leave (v := (some (.ref bn))) (fun h => by rw [Bd.returns] at h; cases h)
 subst hB0
 refine ⟨_, _, st78 _ ?_, hrun, hended, _, _, rfl, ?_, ⟨_, rfl⟩, hW, hsame.mono (by decide) (by decide)⟩
 ·exact retOut X63 hx Bd.returns rfl (Or.inr (Or.inr (Or.inr (Or.inr ⟨rfl, rfl, rfl⟩)))) (hb hby d24_122) hr
 ·show Q_rm_adm2 Z bx bv mx mv f h0 n0 _ T63.heap _
  skip
  exact ⟨_, _, rfl, N63, k77, ⟨f73, Fq63_signum, Fq63_mag, f72⟩, g_bn, g_rq27⟩
def Q_rm_vo (Z : State) (ua : Int64) (h0 : Heap) (n0 : Nat) (v : Option Value) (h : Heap) (L : List Loc) : Prop := ∃ bq mq, v = some (.ref bq) ∧ Fr n0 L ∧ Keep h0 h [] ∧ own_BI Z h bq mq (own_sg ua) (own_n ua) (own_f ua)
set_option maxRecDepth 65536 in
set_option maxHeartbeats 40000000 in
theorem rm_vo (l : Launch) (Z : State) (a0 : Array Value) (hw : ∀ d ∈ tables_1, d.before a0 Z = true) (ws : List Jvm.Cond) (ua : Int64) (h0 : Heap) (n0 : Nat) (Z0 : n0 ≤ h0.size) (Cs : own_Cs Z h0) :
  MetFree l (⟨"java/math/BigInteger", "valueOf", "(J)Ljava/math/BigInteger;"⟩ : MethodName) (head1 (Jvm.Cond.code (⟨"java/math/BigInteger", "valueOf", "(J)Ljava/math/BigInteger;"⟩ : MethodName) jdk_2097_method_29_code 2 (some (.object "java/math/BigInteger")) :: ws) ({ frames := 3, cells := 2, slots := 8, locals := 40 } : Room)) (fun a U => a = #[.long ua] ∧ Z.Warmed39 U.vm ∧ U.heap = h0) (fun _ _ _ _ _ => True) (fun _ U o U' => ∃ v L, o = .returned v ∧ Q_rm_vo Z ua h0 n0 v U'.heap L ∧ FrameEnd U o U' L ({ frames := 3, cells := 2, slots := 8, locals := 40 } : Room).cells ({ frames := 3, cells := 2, slots := 8, locals := 40 } : Room).slots) := by
 refine MetFree.of_bodySF (plainFor_of_name own_pn1) hisR ?_
 intro p e s m args below meth c s₁ Bd hml0 hP hK
 obtain ⟨rfl, hZ, hh⟩ := hP
 have hx := Bd.exec
 have hby := Bd.bytes
 have hml : c.maxLocals = 2 := hml0
 have hown : s.vm.findClass "java/math/BigInteger" = some m.cls := findClass_of_methodNamed Bd.named
 have hnm := (name_of_methodNamed Bd.named Bd.method).1
 have X0 : Stand p l e ({ frames := 3, cells := 2, slots := 8, locals := 40 } : Room) s m #[.long ua] below meth c s₁ [] 0 0 := Stand.of_body Bd
 have e0 : s₁.heap = h0 := by rw [← hh, Bd.state]; rfl
 have N0 := Fr.nil n0
 obtain ⟨B0, hB0⟩ : ∃ B, B = (s₁.setTop (entryFrame m #[.long ua] 2)) := ⟨_, rfl⟩
 have st0 : own_K p e below s₁ m 0 #[.val (.long ua), .second] [] B0 := fun t kk0 => hB0 ▸ castTop (own_ef13_J m ua) kk0
 have k0 : Keep h0 h0 [] := Keep.refl _ _
 obtain ⟨⟨z0, mz, sZ, bZ⟩, ⟨pa, pf, sP, aP, bP⟩, ⟨na, nf, sN, aN, bN⟩⟩ := Cs
 have st1 : own_K p e below s₁ m 3 #[.val (.long ua), .second] [(.int (lcmpW ua (0 : Int64)))] B0 := fun t kt => st0 t (by
  refine XS.lloadN X0.here hx rfl (hb hby d13_0) rfl ?_
  refine XS.lconst X0.here hx rfl (hb hby d13_1) ?_
  refine XS.lcmp X0.here hx rfl (hb hby d13_2) rfl ?_
  exact kt)
 by_cases q0 : ua = (0 : Int64)
 ·have st2 : own_K p e below s₁ m 6 #[.val (.long ua), .second] [] B0 := fun t kt => st1 t (by
   refine XS.ifNo X0.here hx rfl (hb hby d13_3) rfl ((if0 _ _).trans (teq ((lw_eq _ _).mpr q0)).2) ?_
   exact kt)
  obtain ⟨T3, X3, e3, ls3⟩ := getS2 X0 hx hZ hown (host := "") (Or.inl (own_w hw 138 rfl)) Via.refl e0 sZ (g := (mkF m 6 #[.val (.long ua), .second] [])) rfl (hb hby d13_6)
  have st4 := fun t kt => st2 t (ls3 t kt)
  obtain ⟨fs, hr, hrun, hended, hW, hsame⟩ := X3.leave (v := (some (.ref z0))) (fun h => by rw [Bd.returns] at h; cases h)
  subst hB0
  refine ⟨_, _, st4 _ ?_, hrun, hended, _, _, rfl, ?_, ⟨_, rfl⟩, hW, hsame.mono (by decide) (by decide)⟩
  ·exact retOut X3 hx Bd.returns rfl (Or.inr (Or.inr (Or.inr (Or.inr ⟨rfl, rfl, rfl⟩)))) (hb hby d13_9) hr
  ·show Q_rm_vo Z ua h0 n0 _ T3.heap _
   rw [e3]
   exact ⟨_, _, rfl, N0, k0, bZ.cast (by rw [q0]; decide) (by rw [q0]; decide) (by rw [q0]; exact own_f_one (k := 0) (by decide +kernel) (by decide +kernel))⟩
 ·have st5 : own_K p e below s₁ m 13 #[.val (.long ua), .second] [(.int (lcmpW ua (0 : Int64)))] B0 := fun t kt => st1 t (by
   refine XS.ifYes X0.here hx rfl (pc0 := 3) (pc' := 10) rfl (hb hby d13_3) rfl ((if0 _ _).trans (feq (fun q => q0 ((lw_eq _ _).mp q))).2) (by decide) (by decide) ?_
   refine XS.lloadN X0.here hx rfl (hb hby d13_10) rfl ?_
   refine XS.lconst X0.here hx rfl (hb hby d13_11) ?_
   refine XS.lcmp X0.here hx rfl (hb hby d13_12) rfl ?_
   exact kt)
  by_cases q1 : (0 : Int64) < ua
  ·have st6 : own_K p e below s₁ m 21 #[.val (.long ua), .second] [(.int (lcmpW ua (16 : Int64)))] B0 := fun t kt => st5 t (by
    refine XS.ifNo X0.here hx rfl (hb hby d13_13) rfl ((if0 _ _).trans (tlt ((lw_gt _ _).mpr q1)).2.2.2) ?_
    refine XS.lloadN X0.here hx rfl (hb hby d13_16) rfl ?_
    show own_At p e below s₁ m 17 #[.val (.long ua), .second] [.long ua] _
    refine X0.ldc2Long hx hown (mvT hZ (own_w hw 65 rfl)) (g := (mkF m 17 #[.val (.long ua), .second] [.long ua])) rfl (hb hby d13_17) _ ?_
    refine XS.lcmp X0.here hx rfl (hb hby d13_20) rfl ?_
    exact kt)
   by_cases q2 : (16 : Int64) < ua
   ·have hc7 : ¬ (ua < (0 : Int64)) := own_npos q1
    have st8 : own_K p e below s₁ m 53 #[.val (.long ua), .second] [] B0 := fun t kt => st6 t (by
     refine XS.ifYes X0.here hx rfl (pc0 := 21) (pc' := 31) rfl (hb hby d13_21) rfl ((if0 _ _).trans (tlt ((lw_gt _ _).mpr q2)).2.2.1) (by decide) (by decide) ?_
     refine XS.lloadN X0.here hx rfl (hb hby d13_31) rfl ?_
     refine XS.lconst X0.here hx rfl (hb hby d13_32) ?_
     refine XS.lcmp X0.here hx rfl (hb hby d13_33) rfl ?_
     refine XS.ifYes X0.here hx rfl (pc0 := 34) (pc' := 53) rfl (hb hby d13_34) rfl ((if0 _ _).trans (flt (fun q => hc7 ((lw_lt _ _).mp q))).2.1) (by decide) (by decide) ?_
     exact kt)
    obtain ⟨T9, h9, X9, e9, E9, A9, D9, -, ls9⟩ := newO X0 hx hZ hown (own_w hw 67 rfl) (own_w hw 68 rfl) (own_w hw 63 rfl) e0 (g := (mkF m 53 #[.val (.long ua), .second] [])) rfl (hb hby d13_53) (by decide) (by decide)
    obtain ⟨bn, g9⟩ : ∃ z, z = h0.size := ⟨_, rfl⟩
    rw [← g9] at A9 D9 ls9
    have g_bn : n0 ≤ bn := Nat.le_trans Z0 (Nat.le_of_eq g9.symm)
    have sz_bn : h0.size ≤ bn := Nat.le_trans k0.1 (Nat.le_of_eq g9.symm)
    have z10 := Nat.le_trans Z0 E9.1
    have k11 := k0.ext E9
    have f12 : Fld Z h9 bn "java/math/BigInteger" "signum" "I" (.int 0) := D9 (Or.inr (own_w hw 81 rfl)) (ty := .int) (by decide)
    have f13 : Fld Z h9 bn "java/math/BigInteger" "mag" "[I" .null := D9 (Or.inr (own_w hw 84 rfl)) (ty := (.array .int)) (by decide)
    have st14 := fun t kt => st8 t (ls9 t kt)
    have st15 : own_K p e below T9 m 58 #[.val (.long ua), .second] [.long ua, .ref bn, .ref bn] B0 := fun t kt => st14 t (by
     refine XS.dup X9.here hx rfl (hb hby d13_56) rfl rfl ?_
     refine XS.lloadN X9.here hx rfl (hb hby d13_57) rfl ?_
     exact kt)
    obtain ⟨_, _, ⟨T16, L16, k16, n16⟩, -, X16, ⟨Lc16, hQ16, l16, y16, z16⟩, ls16⟩ := X9.specialBack hx (y := (⟨"java/math/BigInteger", "<init>", "(J)V"⟩ : MethodName)) rfl hown (mvT hZ (own_w hw 69 rfl)) (mvT hZ (own_w hw 70 rfl)) (mvT hZ (own_w hw 72 rfl)) (by decide) (backOf (W := 1) (rm_ij l Z a0 hw [] bn ua h9 n0 z10 A9 g_bn f12 f13 q0) hZ (own_w hw 72 rfl) (own_w hw 63 rfl) (by decide) (by decide)) (g := (mkF m 58 #[.val (.long ua), .second] [.long ua, .ref bn, .ref bn])) rfl (by rw [hml]; rfl) (Steps.refl _) (a := bn) (argsL := [.long ua]) (rest := [.ref bn]) (lenOf own_pd8 rfl) rfl (by show 2 * 0 + _ ≤ _; exact Nat.le_of_eq rfl) (hb hby d13_58) (fun _ _ => ⟨rfl, e9, (by decide : 1 + 1 ≤ _), (by decide : 6 + 2 ≤ _)⟩)
    dsimp only [Pt.U, Pt.locs, Pt.cells, Pt.slots] at X16 l16 y16 z16 ls16 hQ16
    subst l16 y16 z16
    obtain ⟨rfl, Nq16, Kq16, Fq16_signum, mq16, gq16, Fq16_mag, Aq16⟩ := hQ16
    have N16 := Fr.app N0 Nq16
    have f17 := A9.keep Kq16
    have z20 := Nat.le_trans z10 Kq16.1
    have k21 := Keep.trans k11 Kq16 (allS (P := fun x => x ∈ [] ∨ h0.size ≤ x) (Or.inr sz_bn) all0)
    have st22 : own_K p e below T16 m 61 #[.val (.long ua), .second] [.ref bn] B0 := fun t kt => st15 t (ls16.trans kt)
    have g_mq16 := gq16
    obtain ⟨fs, hr, hrun, hended, hW, hsame⟩ := X16.leave (v := (some (.ref bn))) (fun h => by rw [Bd.returns] at h; cases h)
    subst hB0
    refine ⟨_, _, st22 _ ?_, hrun, hended, _, _, rfl, ?_, ⟨_, rfl⟩, hW, hsame.mono (by decide) (by decide)⟩
    ·exact retOut X16 hx Bd.returns rfl (Or.inr (Or.inr (Or.inr (Or.inr ⟨rfl, rfl, rfl⟩)))) (hb hby d13_61) hr
    ·show Q_rm_vo Z ua h0 n0 _ T16.heap _
     skip
     exact ⟨_, _, rfl, N16, k21, f17, Fq16_signum, Fq16_mag, Aq16⟩
   ·obtain ⟨k, k1, k16, hk⟩ := own_exP q1 q2
    have sk := own_smP k k1 k16
    rw [← hk] at sk
    obtain ⟨bc, mc, hpf, hbi⟩ := bP k k1 k16
    have pk := own_nat32 (show k < 2 ^ 31 by omega)
    have st23 : own_K p e below s₁ m 24 #[.val (.long ua), .second] [] B0 := fun t kt => st6 t (by
     refine XS.ifNo X0.here hx rfl (hb hby d13_21) rfl ((if0 _ _).trans (flt (fun q => q2 ((lw_gt _ _).mp q))).2.2.1) ?_
     exact kt)
    obtain ⟨T24, X24, e24, ls24⟩ := getS2 X0 hx hZ hown (host := "") (Or.inl (own_w hw 66 rfl)) Via.refl e0 sP (g := (mkF m 24 #[.val (.long ua), .second] [])) rfl (hb hby d13_24)
    have st25 := fun t kt => st23 t (ls24 t kt)
    have st26 : own_K p e below T24 m 29 #[.val (.long ua), .second] [.int (Int32.ofNat k), .ref pa] B0 := fun t kt => st25 t (by
     refine XS.lloadN X24.here hx rfl (hb hby d13_27) rfl ?_
     refine XS.l2i X24.here hx rfl (hb hby d13_28) rfl ?_
     show own_At p e below T24 m 29 #[.val (.long ua), .second] [.int (ua.toInt32), .ref pa] _
     rw [show (ua.toInt32) = (Int32.ofNat k) from (sk.2.2.2.2)]
     exact kt)
    have ls27 := own_aaload (ty := (.object "java/math/BigInteger")) rfl X24 hx hZ e24 aP (j := (Int32.ofNat k)) (i := k) (pk.2) (pk.1) (by omega) (v := (.ref bc)) (hpf) (g := (mkF m 29 #[.val (.long ua), .second] [.int (Int32.ofNat k), .ref pa])) rfl rfl (hb hby d13_29)
    have st28 := fun t kt => st26 t (ls27 t kt)
    obtain ⟨fs, hr, hrun, hended, hW, hsame⟩ := X24.leave (v := (some (.ref bc))) (fun h => by rw [Bd.returns] at h; cases h)
    subst hB0
    refine ⟨_, _, st28 _ ?_, hrun, hended, _, _, rfl, ?_, ⟨_, rfl⟩, hW, hsame.mono (by decide) (by decide)⟩
    ·exact retOut X24 hx Bd.returns rfl (Or.inr (Or.inr (Or.inr (Or.inr ⟨rfl, rfl, rfl⟩)))) (hb hby d13_30) hr
    ·show Q_rm_vo Z ua h0 n0 _ T24.heap _
     rw [e24]
     exact ⟨_, _, rfl, N0, k0, hbi.cast sk.1 sk.2.1 (own_f_one sk.2.2.1 sk.2.2.2.1)⟩
  ·have hc29 : ua < (0 : Int64) := own_neg q0 q1
   have st30 : own_K p e below s₁ m 42 #[.val (.long ua), .second] [(.int (lcmpW ua (-16 : Int64)))] B0 := fun t kt => st5 t (by
    refine XS.ifYes X0.here hx rfl (pc0 := 13) (pc' := 31) rfl (hb hby d13_13) rfl ((if0 _ _).trans (flt (fun q => q1 ((lw_gt _ _).mp q))).2.2.2) (by decide) (by decide) ?_
    refine XS.lloadN X0.here hx rfl (hb hby d13_31) rfl ?_
    refine XS.lconst X0.here hx rfl (hb hby d13_32) ?_
    refine XS.lcmp X0.here hx rfl (hb hby d13_33) rfl ?_
    refine XS.ifNo X0.here hx rfl (hb hby d13_34) rfl ((if0 _ _).trans (tlt ((lw_lt _ _).mpr hc29)).2.1) ?_
    refine XS.lloadN X0.here hx rfl (hb hby d13_37) rfl ?_
    show own_At p e below s₁ m 38 #[.val (.long ua), .second] [.long ua] _
    refine X0.ldc2Long hx hown (mvT hZ (own_w hw 134 rfl)) (g := (mkF m 38 #[.val (.long ua), .second] [.long ua])) rfl (hb hby d13_38) _ ?_
    refine XS.lcmp X0.here hx rfl (hb hby d13_41) rfl ?_
    exact kt)
   by_cases q3 : ua < (-16 : Int64)
   ·have st31 : own_K p e below s₁ m 53 #[.val (.long ua), .second] [] B0 := fun t kt => st30 t (by
     refine XS.ifYes X0.here hx rfl (pc0 := 42) (pc' := 53) rfl (hb hby d13_42) rfl ((if0 _ _).trans (tlt ((lw_lt _ _).mpr q3)).1) (by decide) (by decide) ?_
     exact kt)
    obtain ⟨T32, h32, X32, e32, E32, A32, D32, -, ls32⟩ := newO X0 hx hZ hown (own_w hw 67 rfl) (own_w hw 68 rfl) (own_w hw 63 rfl) e0 (g := (mkF m 53 #[.val (.long ua), .second] [])) rfl (hb hby d13_53) (by decide) (by decide)
    obtain ⟨bn, g32⟩ : ∃ z, z = h0.size := ⟨_, rfl⟩
    rw [← g32] at A32 D32 ls32
    have g_bn : n0 ≤ bn := Nat.le_trans Z0 (Nat.le_of_eq g32.symm)
    have sz_bn : h0.size ≤ bn := Nat.le_trans k0.1 (Nat.le_of_eq g32.symm)
    have z33 := Nat.le_trans Z0 E32.1
    have k34 := k0.ext E32
    have f35 : Fld Z h32 bn "java/math/BigInteger" "signum" "I" (.int 0) := D32 (Or.inr (own_w hw 81 rfl)) (ty := .int) (by decide)
    have f36 : Fld Z h32 bn "java/math/BigInteger" "mag" "[I" .null := D32 (Or.inr (own_w hw 84 rfl)) (ty := (.array .int)) (by decide)
    have st37 := fun t kt => st31 t (ls32 t kt)
    have st38 : own_K p e below T32 m 58 #[.val (.long ua), .second] [.long ua, .ref bn, .ref bn] B0 := fun t kt => st37 t (by
     refine XS.dup X32.here hx rfl (hb hby d13_56) rfl rfl ?_
     refine XS.lloadN X32.here hx rfl (hb hby d13_57) rfl ?_
     exact kt)
    obtain ⟨_, _, ⟨T39, L39, k39, n39⟩, -, X39, ⟨Lc39, hQ39, l39, y39, z39⟩, ls39⟩ := X32.specialBack hx (y := (⟨"java/math/BigInteger", "<init>", "(J)V"⟩ : MethodName)) rfl hown (mvT hZ (own_w hw 69 rfl)) (mvT hZ (own_w hw 70 rfl)) (mvT hZ (own_w hw 72 rfl)) (by decide) (backOf (W := 1) (rm_ij l Z a0 hw [] bn ua h32 n0 z33 A32 g_bn f35 f36 q0) hZ (own_w hw 72 rfl) (own_w hw 63 rfl) (by decide) (by decide)) (g := (mkF m 58 #[.val (.long ua), .second] [.long ua, .ref bn, .ref bn])) rfl (by rw [hml]; rfl) (Steps.refl _) (a := bn) (argsL := [.long ua]) (rest := [.ref bn]) (lenOf own_pd8 rfl) rfl (by show 2 * 0 + _ ≤ _; exact Nat.le_of_eq rfl) (hb hby d13_58) (fun _ _ => ⟨rfl, e32, (by decide : 1 + 1 ≤ _), (by decide : 6 + 2 ≤ _)⟩)
    dsimp only [Pt.U, Pt.locs, Pt.cells, Pt.slots] at X39 l39 y39 z39 ls39 hQ39
    subst l39 y39 z39
    obtain ⟨rfl, Nq39, Kq39, Fq39_signum, mq39, gq39, Fq39_mag, Aq39⟩ := hQ39
    have N39 := Fr.app N0 Nq39
    have f40 := A32.keep Kq39
    have z43 := Nat.le_trans z33 Kq39.1
    have k44 := Keep.trans k34 Kq39 (allS (P := fun x => x ∈ [] ∨ h0.size ≤ x) (Or.inr sz_bn) all0)
    have st45 : own_K p e below T39 m 61 #[.val (.long ua), .second] [.ref bn] B0 := fun t kt => st38 t (ls39.trans kt)
    have g_mq39 := gq39
    obtain ⟨fs, hr, hrun, hended, hW, hsame⟩ := X39.leave (v := (some (.ref bn))) (fun h => by rw [Bd.returns] at h; cases h)
    subst hB0
    refine ⟨_, _, st45 _ ?_, hrun, hended, _, _, rfl, ?_, ⟨_, rfl⟩, hW, hsame.mono (by decide) (by decide)⟩
    ·exact retOut X39 hx Bd.returns rfl (Or.inr (Or.inr (Or.inr (Or.inr ⟨rfl, rfl, rfl⟩)))) (hb hby d13_61) hr
    ·show Q_rm_vo Z ua h0 n0 _ T39.heap _
     skip
     exact ⟨_, _, rfl, N39, k44, f40, Fq39_signum, Fq39_mag, Aq39⟩
   ·obtain ⟨k, k1, k16, hk⟩ := own_exM (own_neg q0 q1) q3
    have sk := own_smM k k1 k16
    rw [← hk] at sk
    obtain ⟨bc, mc, hpf, hbi⟩ := bN k k1 k16
    have pk := own_nat32 (show k < 2 ^ 31 by omega)
    have st46 : own_K p e below s₁ m 45 #[.val (.long ua), .second] [] B0 := fun t kt => st30 t (by
     refine XS.ifNo X0.here hx rfl (hb hby d13_42) rfl ((if0 _ _).trans (flt (fun q => q3 ((lw_lt _ _).mp q))).1) ?_
     exact kt)
    obtain ⟨T47, X47, e47, ls47⟩ := getS2 X0 hx hZ hown (host := "") (Or.inl (own_w hw 139 rfl)) Via.refl e0 sN (g := (mkF m 45 #[.val (.long ua), .second] [])) rfl (hb hby d13_45)
    have st48 := fun t kt => st46 t (ls47 t kt)
    have st49 : own_K p e below T47 m 51 #[.val (.long ua), .second] [.int (Int32.ofNat k), .ref na] B0 := fun t kt => st48 t (by
     refine XS.lloadN X47.here hx rfl (hb hby d13_48) rfl ?_
     refine XS.lneg X47.here hx rfl (hb hby d13_49) rfl ?_
     refine XS.l2i X47.here hx rfl (hb hby d13_50) rfl ?_
     show own_At p e below T47 m 51 #[.val (.long ua), .second] [(.int ((-ua).toInt32)), .ref na] _
     rw [show ((-ua).toInt32) = (Int32.ofNat k) from (sk.2.2.2.2)]
     exact kt)
    have ls50 := own_aaload (ty := (.object "java/math/BigInteger")) rfl X47 hx hZ e47 aN (j := (Int32.ofNat k)) (i := k) (pk.2) (pk.1) (by omega) (v := (.ref bc)) (hpf) (g := (mkF m 51 #[.val (.long ua), .second] [.int (Int32.ofNat k), .ref na])) rfl rfl (hb hby d13_51)
    have st51 := fun t kt => st49 t (ls50 t kt)
    obtain ⟨fs, hr, hrun, hended, hW, hsame⟩ := X47.leave (v := (some (.ref bc))) (fun h => by rw [Bd.returns] at h; cases h)
    subst hB0
    refine ⟨_, _, st51 _ ?_, hrun, hended, _, _, rfl, ?_, ⟨_, rfl⟩, hW, hsame.mono (by decide) (by decide)⟩
    ·exact retOut X47 hx Bd.returns rfl (Or.inr (Or.inr (Or.inr (Or.inr ⟨rfl, rfl, rfl⟩)))) (hb hby d13_52) hr
    ·show Q_rm_vo Z ua h0 n0 _ T47.heap _
     rw [e47]
     exact ⟨_, _, rfl, N0, k0, hbi.cast sk.1 sk.2.1 (own_f_one sk.2.2.1 sk.2.2.2.1)⟩
def Q_rm_vm (Z : State)  (h0 : Heap) (n0 : Nat) (v : Option Value) (h : Heap) (L : List Loc) : Prop := ∃ bq mq, v = some (.ref bq) ∧ Fr n0 L ∧ Keep h0 h [] ∧ h0.size ≤ bq ∧ own_BI Z h bq mq 1 2 (fun q => if q = 0 then 2147483647 else -1)
set_option maxRecDepth 65536 in
set_option maxHeartbeats 40000000 in
theorem rm_vm (l : Launch) (Z : State) (a0 : Array Value) (hw : ∀ d ∈ tables_1, d.before a0 Z = true) (ws : List Jvm.Cond)  (h0 : Heap) (n0 : Nat) (Z0 : n0 ≤ h0.size) :
  MetFree l (⟨"java/math/BigInteger", "valueOf", "(J)Ljava/math/BigInteger;"⟩ : MethodName) (head1 (Jvm.Cond.code (⟨"java/math/BigInteger", "valueOf", "(J)Ljava/math/BigInteger;"⟩ : MethodName) jdk_2097_method_29_code 2 (some (.object "java/math/BigInteger")) :: ws) ({ frames := 3, cells := 2, slots := 8, locals := 40 } : Room)) (fun a U => a = #[.long (9223372036854775807 : Int64)] ∧ Z.Warmed39 U.vm ∧ U.heap = h0) (fun _ _ _ _ _ => True) (fun _ U o U' => ∃ v L, o = .returned v ∧ Q_rm_vm Z  h0 n0 v U'.heap L ∧ FrameEnd U o U' L ({ frames := 3, cells := 2, slots := 8, locals := 40 } : Room).cells ({ frames := 3, cells := 2, slots := 8, locals := 40 } : Room).slots) := by
 refine MetFree.of_bodySF (plainFor_of_name own_pn1) hisR ?_
 intro p e s m args below meth c s₁ Bd hml0 hP hK
 obtain ⟨rfl, hZ, hh⟩ := hP
 have hx := Bd.exec
 have hby := Bd.bytes
 have hml : c.maxLocals = 2 := hml0
 have hown : s.vm.findClass "java/math/BigInteger" = some m.cls := findClass_of_methodNamed Bd.named
 have hnm := (name_of_methodNamed Bd.named Bd.method).1
 have X0 : Stand p l e ({ frames := 3, cells := 2, slots := 8, locals := 40 } : Room) s m #[.long (9223372036854775807 : Int64)] below meth c s₁ [] 0 0 := Stand.of_body Bd
 have e0 : s₁.heap = h0 := by rw [← hh, Bd.state]; rfl
 have N0 := Fr.nil n0
 obtain ⟨B0, hB0⟩ : ∃ B, B = (s₁.setTop (entryFrame m #[.long (9223372036854775807 : Int64)] 2)) := ⟨_, rfl⟩
 have st0 : own_K p e below s₁ m 0 #[.val (.long (9223372036854775807 : Int64)), .second] [] B0 := fun t kk0 => hB0 ▸ castTop (own_ef13_J m (9223372036854775807 : Int64)) kk0
 have k0 : Keep h0 h0 [] := Keep.refl _ _
 have hc1 : ¬ ((9223372036854775807 : Int64) = (0 : Int64)) := by decide
 have hc2 : (0 : Int64) < (9223372036854775807 : Int64) := by decide
 have hc3 : (16 : Int64) < (9223372036854775807 : Int64) := by decide
 have hc4 : ¬ ((9223372036854775807 : Int64) < (0 : Int64)) := by decide
 have st5 : own_K p e below s₁ m 53 #[.val (.long (9223372036854775807 : Int64)), .second] [] B0 := fun t kt => st0 t (by
  refine XS.lloadN X0.here hx rfl (hb hby d13_0) rfl ?_
  refine XS.lconst X0.here hx rfl (hb hby d13_1) ?_
  refine XS.lcmp X0.here hx rfl (hb hby d13_2) rfl ?_
  refine XS.ifYes X0.here hx rfl (pc0 := 3) (pc' := 10) rfl (hb hby d13_3) rfl ((if0 _ _).trans (feq (fun q => hc1 ((lw_eq _ _).mp q))).2) (by decide) (by decide) ?_
  refine XS.lloadN X0.here hx rfl (hb hby d13_10) rfl ?_
  refine XS.lconst X0.here hx rfl (hb hby d13_11) ?_
  refine XS.lcmp X0.here hx rfl (hb hby d13_12) rfl ?_
  refine XS.ifNo X0.here hx rfl (hb hby d13_13) rfl ((if0 _ _).trans (tlt ((lw_gt _ _).mpr hc2)).2.2.2) ?_
  refine XS.lloadN X0.here hx rfl (hb hby d13_16) rfl ?_
  show own_At p e below s₁ m 17 #[.val (.long (9223372036854775807 : Int64)), .second] [.long (9223372036854775807 : Int64)] _
  refine X0.ldc2Long hx hown (mvT hZ (own_w hw 65 rfl)) (g := (mkF m 17 #[.val (.long (9223372036854775807 : Int64)), .second] [.long (9223372036854775807 : Int64)])) rfl (hb hby d13_17) _ ?_
  refine XS.lcmp X0.here hx rfl (hb hby d13_20) rfl ?_
  refine XS.ifYes X0.here hx rfl (pc0 := 21) (pc' := 31) rfl (hb hby d13_21) rfl ((if0 _ _).trans (tlt ((lw_gt _ _).mpr hc3)).2.2.1) (by decide) (by decide) ?_
  refine XS.lloadN X0.here hx rfl (hb hby d13_31) rfl ?_
  refine XS.lconst X0.here hx rfl (hb hby d13_32) ?_
  refine XS.lcmp X0.here hx rfl (hb hby d13_33) rfl ?_
  refine XS.ifYes X0.here hx rfl (pc0 := 34) (pc' := 53) rfl (hb hby d13_34) rfl ((if0 _ _).trans (flt (fun q => hc4 ((lw_lt _ _).mp q))).2.1) (by decide) (by decide) ?_
  exact kt)
 obtain ⟨T6, h6, X6, e6, E6, A6, D6, -, ls6⟩ := newO X0 hx hZ hown (own_w hw 67 rfl) (own_w hw 68 rfl) (own_w hw 63 rfl) e0 (g := (mkF m 53 #[.val (.long (9223372036854775807 : Int64)), .second] [])) rfl (hb hby d13_53) (by decide) (by decide)
 obtain ⟨bn, g6⟩ : ∃ z, z = h0.size := ⟨_, rfl⟩
 rw [← g6] at A6 D6 ls6
 have g_bn : n0 ≤ bn := Nat.le_trans Z0 (Nat.le_of_eq g6.symm)
 have sz_bn : h0.size ≤ bn := Nat.le_trans k0.1 (Nat.le_of_eq g6.symm)
 have z7 := Nat.le_trans Z0 E6.1
 have k8 := k0.ext E6
 have f9 : Fld Z h6 bn "java/math/BigInteger" "signum" "I" (.int 0) := D6 (Or.inr (own_w hw 81 rfl)) (ty := .int) (by decide)
 have f10 : Fld Z h6 bn "java/math/BigInteger" "mag" "[I" .null := D6 (Or.inr (own_w hw 84 rfl)) (ty := (.array .int)) (by decide)
 have st11 := fun t kt => st5 t (ls6 t kt)
 have st12 : own_K p e below T6 m 58 #[.val (.long (9223372036854775807 : Int64)), .second] [.long (9223372036854775807 : Int64), .ref bn, .ref bn] B0 := fun t kt => st11 t (by
  refine XS.dup X6.here hx rfl (hb hby d13_56) rfl rfl ?_
  refine XS.lloadN X6.here hx rfl (hb hby d13_57) rfl ?_
  exact kt)
 obtain ⟨_, _, ⟨T13, L13, k13, n13⟩, -, X13, ⟨Lc13, hQ13, l13, y13, z13⟩, ls13⟩ := X6.specialBack hx (y := (⟨"java/math/BigInteger", "<init>", "(J)V"⟩ : MethodName)) rfl hown (mvT hZ (own_w hw 69 rfl)) (mvT hZ (own_w hw 70 rfl)) (mvT hZ (own_w hw 72 rfl)) (by decide) (backOf (W := 1) (rm_ij l Z a0 hw [] bn ((9223372036854775807 : Int64)) h6 n0 z7 A6 g_bn f9 f10 (by decide)) hZ (own_w hw 72 rfl) (own_w hw 63 rfl) (by decide) (by decide)) (g := (mkF m 58 #[.val (.long (9223372036854775807 : Int64)), .second] [.long (9223372036854775807 : Int64), .ref bn, .ref bn])) rfl (by rw [hml]; rfl) (Steps.refl _) (a := bn) (argsL := [.long (9223372036854775807 : Int64)]) (rest := [.ref bn]) (lenOf own_pd8 rfl) rfl (by show 2 * 0 + _ ≤ _; exact Nat.le_of_eq rfl) (hb hby d13_58) (fun _ _ => ⟨rfl, e6, (by decide : 1 + 1 ≤ _), (by decide : 6 + 2 ≤ _)⟩)
 dsimp only [Pt.U, Pt.locs, Pt.cells, Pt.slots] at X13 l13 y13 z13 ls13 hQ13
 subst l13 y13 z13
 obtain ⟨rfl, Nq13, Kq13, Fq13_signum, mq13, gq13, Fq13_mag, Aq13⟩ := hQ13
 have N13 := Fr.app N0 Nq13
 have f14 := A6.keep Kq13
 have z17 := Nat.le_trans z7 Kq13.1
 have k18 := Keep.trans k8 Kq13 (allS (P := fun x => x ∈ [] ∨ h0.size ≤ x) (Or.inr sz_bn) all0)
 have st19 : own_K p e below T13 m 61 #[.val (.long (9223372036854775807 : Int64)), .second] [.ref bn] B0 := fun t kt => st12 t (ls13.trans kt)
 have g_mq13 := gq13
 obtain ⟨fs, hr, hrun, hended, hW, hsame⟩ := X13.leave (v := (some (.ref bn))) (fun h => by rw [Bd.returns] at h; cases h)
 subst hB0
 refine ⟨_, _, st19 _ ?_, hrun, hended, _, _, rfl, ?_, ⟨_, rfl⟩, hW, hsame.mono (by decide) (by decide)⟩
 ·exact retOut X13 hx Bd.returns rfl (Or.inr (Or.inr (Or.inr (Or.inr ⟨rfl, rfl, rfl⟩)))) (hb hby d13_61) hr
 ·show Q_rm_vm Z  h0 n0 _ T13.heap _
  skip
  exact ⟨_, _, rfl, N13, k18, sz_bn, own_BI.cast ⟨f14, Fq13_signum, Fq13_mag, Aq13⟩ (by decide +kernel) (by decide +kernel) own_fM⟩
def Q_rm_ct (Z : State) (bx : Addr) (bv : Addr) (mx : Addr) (mv : Addr) (f : Nat → Int32) (h0 : Heap) (n0 : Nat) (v : Option Value) (h : Heap) (L : List Loc) : Prop := v = some (.int 0) ∧ Fr n0 L ∧ h = h0
set_option maxRecDepth 65536 in
set_option maxHeartbeats 40000000 in
theorem rm_ct (l : Launch) (Z : State) (a0 : Array Value) (hw : ∀ d ∈ tables_1, d.before a0 Z = true) (ws : List Jvm.Cond) (bx : Addr) (bv : Addr) (mx : Addr) (mv : Addr) (f : Nat → Int32) (h0 : Heap) (n0 : Nat) (Z0 : n0 ≤ h0.size) (E_bx : Exa Z h0 bx "java/math/BigInteger") (F_signum_bx : Fld Z h0 bx "java/math/BigInteger" "signum" "I" (.int 1)) (F_mag_bx : Fld Z h0 bx "java/math/BigInteger" "mag" "[I" (.ref mx)) (A_mx : own_Av Z h0 mx .int 4 (fun q => .int (f q))) (E_bv : Exa Z h0 bv "java/math/BigInteger") (F_signum_bv : Fld Z h0 bv "java/math/BigInteger" "signum" "I" (.int 1)) (F_mag_bv : Fld Z h0 bv "java/math/BigInteger" "mag" "[I" (.ref mv)) (A_mv : own_Av Z h0 mv .int 4 (fun q => .int (f q))) :
  MetFree l (⟨"java/math/BigInteger", "compareTo", "(Ljava/math/BigInteger;)I"⟩ : MethodName) (head1 (Jvm.Cond.code (⟨"java/math/BigInteger", "compareTo", "(Ljava/math/BigInteger;)I"⟩ : MethodName) jdk_2097_method_121_code 2 (some .int) :: ws) ({ frames := 1, cells := 0, slots := 0, locals := 20 } : Room)) (fun a U => a = #[.ref bx, .ref bv] ∧ Z.Warmed39 U.vm ∧ U.heap = h0) (fun _ _ _ _ _ => True) (fun _ U o U' => ∃ v L, o = .returned v ∧ Q_rm_ct Z bx bv mx mv f h0 n0 v U'.heap L ∧ FrameEnd U o U' L ({ frames := 1, cells := 0, slots := 0, locals := 20 } : Room).cells ({ frames := 1, cells := 0, slots := 0, locals := 20 } : Room).slots) := by
 refine MetFree.of_bodySF (plainFor_of_name own_pn1) hisR ?_
 intro p e s m args below meth c s₁ Bd hml0 hP hK
 obtain ⟨rfl, hZ, hh⟩ := hP
 have hx := Bd.exec
 have hby := Bd.bytes
 have hml : c.maxLocals = 2 := hml0
 have hown : s.vm.findClass "java/math/BigInteger" = some m.cls := findClass_of_methodNamed Bd.named
 have hnm := (name_of_methodNamed Bd.named Bd.method).1
 have X0 : Stand p l e ({ frames := 1, cells := 0, slots := 0, locals := 20 } : Room) s m #[.ref bx, .ref bv] below meth c s₁ [] 0 0 := Stand.of_body Bd
 have e0 : s₁.heap = h0 := by rw [← hh, Bd.state]; rfl
 have N0 := Fr.nil n0
 obtain ⟨B0, hB0⟩ : ∃ B, B = (s₁.setTop (entryFrame m #[.ref bx, .ref bv] 2)) := ⟨_, rfl⟩
 have st0 : own_K p e below s₁ m 0 #[rv bx, rv bv] [] B0 := fun t kk0 => hB0 ▸ castTop (own_ef26_RR m bx bv) kk0
 have st1 : own_K p e below s₁ m 1 #[rv bx, rv bv] [.ref bx] B0 := fun t kt => st0 t (by
  refine XS.aloadN X0.here hx rfl (hb hby d26_0) rfl rfl ?_
  exact kt)
 obtain ⟨T2, X2, e2, ls2⟩ := getF X0 hx hZ hown (host := "") (Or.inl (own_w hw 80 rfl)) Via.refl e0 F_signum_bx (g := (mkF m 1 #[rv bx, rv bv] [.ref bx])) rfl rfl (hb hby d26_1)
 have st3 := fun t kt => st1 t (ls2 t kt)
 have st4 : own_K p e below T2 m 5 #[rv bx, rv bv] [.ref bv, .int 1] B0 := fun t kt => st3 t (by
  refine XS.aloadN X2.here hx rfl (hb hby d26_4) rfl rfl ?_
  exact kt)
 obtain ⟨T5, X5, e5, ls5⟩ := getF X2 hx hZ hown (host := "") (Or.inl (own_w hw 80 rfl)) Via.refl e2 F_signum_bv (g := (mkF m 5 #[rv bx, rv bv] [.ref bv, .int 1])) rfl rfl (hb hby d26_5)
 have st6 := fun t kt => st4 t (ls5 t kt)
 have hc7 : (1 : Int32) = (1 : Int32) := rfl
 have st8 : own_K p e below T5 m 12 #[rv bx, rv bv] [.ref bx] B0 := fun t kt => st6 t (by
  refine XS.icmpNo X5.here hx rfl (hb hby d26_8) rfl (teq hc7).2 ?_
  refine XS.aloadN X5.here hx rfl (hb hby d26_11) rfl rfl ?_
  exact kt)
 obtain ⟨T9, X9, e9, ls9⟩ := getF X5 hx hZ hown (host := "") (Or.inl (own_w hw 80 rfl)) Via.refl e5 F_signum_bx (g := (mkF m 12 #[rv bx, rv bv] [.ref bx])) rfl rfl (hb hby d26_12)
 have st10 := fun t kt => st8 t (ls9 t kt)
 have st11 : own_K p e below T9 m 42 #[rv bx, rv bv] [.ref bv, .ref bx] B0 := fun t kt => st10 t (by
  show own_At p e below T9 m 15 #[rv bx, rv bv] [.int 1] _
  refine X9.lookupswitchHit hx (g := (mkF m 15 #[rv bx, rv bv] [.int 1])) rfl rfl (hb hby d26_15) (by decide) (a := 1) (off := 25) (by decide) (show (0 : Int) ≤ ((15 : Nat) : Int) + 25 by decide) _ ?_
  refine XS.aloadN X9.here hx rfl (hb hby d26_40) rfl rfl ?_
  refine XS.aloadN X9.here hx rfl (hb hby d26_41) rfl rfl ?_
  exact kt)
 obtain ⟨cq12, kq12, q12a, q12b, q12c⟩ := isOf hZ e9 E_bx
 obtain ⟨_, _, ⟨T12, L12, k12, n12⟩, -, X12, ⟨Lc12, hQ12, l12, y12, z12⟩, ls12⟩ := X9.virtualBack hx (y := (⟨"java/math/BigInteger", "compareMagnitude", "(Ljava/math/BigInteger;)I"⟩ : MethodName)) (z := (⟨"java/math/BigInteger", "compareMagnitude", "(Ljava/math/BigInteger;)I"⟩ : MethodName)) hown (mvT hZ (own_w hw 129 rfl)) (mvT hZ (own_w hw 130 rfl)) (notFace_of_selects (args := #[]) (mvT hZ (own_w hw 132 rfl))) (mvT hZ (own_w hw 132 rfl)) (mvT hZ (own_w hw 131 rfl)) (by decide) (backOf (W := 0) (rm_cm4 l Z a0 hw [] bx bv mx mv f h0 n0 Z0 F_mag_bx A_mx F_mag_bv A_mv) hZ (own_w hw 133 rfl) (own_w hw 63 rfl) (by decide) (by decide)) q12a q12c (g := (mkF m 42 #[rv bx, rv bv] [.ref bv, .ref bx])) rfl (by rw [hml]; rfl) (Steps.refl _) (argsL := [.ref bv]) (rest := []) (lenOf own_pd7 rfl) rfl (by show 2 * 0 + _ ≤ _; exact Nat.le_of_eq rfl) (hb hby d26_42) (fun _ _ => ⟨rfl, e9, (by decide : 0 + 0 ≤ _), (by decide : 0 + 0 ≤ _)⟩)
 dsimp only [Pt.U, Pt.locs, Pt.cells, Pt.slots] at X12 l12 y12 z12 ls12 hQ12
 subst l12 y12 z12
 obtain ⟨rfl, Nq12, eq12⟩ := hQ12
 have N12 := Fr.app N0 Nq12
 have st13 : own_K p e below T12 m 45 #[rv bx, rv bv] [.int 0] B0 := fun t kt => st11 t (ls12.trans kt)
 have st14 : own_K p e below T12 m 57 #[rv bx, rv bv] [.int 0] B0 := fun t kt => st13 t (by
  refine XS.goto X12.here hx rfl (pc0 := 45) (pc' := 57) rfl (hb hby d26_45) (by decide) (by decide) ?_
  exact kt)
 obtain ⟨fs, hr, hrun, hended, hW, hsame⟩ := X12.leave (v := (some (.int 0))) (fun h => by rw [Bd.returns] at h; cases h)
 subst hB0
 refine ⟨_, _, st14 _ ?_, hrun, hended, _, _, rfl, ?_, ⟨_, rfl⟩, hW, hsame.mono (by decide) (by decide)⟩
 ·exact retOut X12 hx Bd.returns rfl (Or.inl ⟨rfl, Or.inl rfl, _, rfl⟩) (hb hby d26_57) hr
 ·show Q_rm_ct Z bx bv mx mv f h0 n0 _ T12.heap _
  rw [eq12]
  exact ⟨rfl, N12, rfl⟩
def Q_rm_lc (Z : State) (ua : Int64) (ud : Int64) (h0 : Heap) (n0 : Nat) (v : Option Value) (h : Heap) (L : List Loc) : Prop := v = some (.int 0) ∧ Fr n0 L ∧ h = h0
set_option maxRecDepth 65536 in
set_option maxHeartbeats 40000000 in
theorem rm_lc (l : Launch) (Z : State) (a0 : Array Value) (hw : ∀ d ∈ tables_1, d.before a0 Z = true) (ws : List Jvm.Cond) (ua : Int64) (ud : Int64) (h0 : Heap) (n0 : Nat) (Z0 : n0 ≤ h0.size) (hab : ua = ud) :
  MetFree l (⟨"java/lang/Long", "compare", "(JJ)I"⟩ : MethodName) (head1 (Jvm.Cond.code (⟨"java/lang/Long", "compare", "(JJ)I"⟩ : MethodName) jdk_35_method_42_code 4 (some .int) :: ws) ({ frames := 0, cells := 0, slots := 0, locals := 0 } : Room)) (fun a U => a = #[.long ua, .long ud] ∧ Z.Warmed39 U.vm ∧ U.heap = h0) (fun _ _ _ _ _ => True) (fun _ U o U' => ∃ v L, o = .returned v ∧ Q_rm_lc Z ua ud h0 n0 v U'.heap L ∧ FrameEnd U o U' L ({ frames := 0, cells := 0, slots := 0, locals := 0 } : Room).cells ({ frames := 0, cells := 0, slots := 0, locals := 0 } : Room).slots) := by
 refine MetFree.of_bodySF (plainFor_of_name own_pn3) hisR ?_
 intro p e s m args below meth c s₁ Bd hml0 hP hK
 obtain ⟨rfl, hZ, hh⟩ := hP
 have hx := Bd.exec
 have hby := Bd.bytes
 have hml : c.maxLocals = 4 := hml0
 have hown : s.vm.findClass "java/lang/Long" = some m.cls := findClass_of_methodNamed Bd.named
 have hnm := (name_of_methodNamed Bd.named Bd.method).1
 have X0 : Stand p l e ({ frames := 0, cells := 0, slots := 0, locals := 0 } : Room) s m #[.long ua, .long ud] below meth c s₁ [] 0 0 := Stand.of_body Bd
 have e0 : s₁.heap = h0 := by rw [← hh, Bd.state]; rfl
 have N0 := Fr.nil n0
 obtain ⟨B0, hB0⟩ : ∃ B, B = (s₁.setTop (entryFrame m #[.long ua, .long ud] 4)) := ⟨_, rfl⟩
 have st0 : own_K p e below s₁ m 0 #[.val (.long ua), .second, .val (.long ud), .second] [] B0 := fun t kk0 => hB0 ▸ castTop (own_ef9_JJ m ua ud) kk0
 have hc1 : ¬ (ua < ud) := by rw [hab]; exact Int64.lt_irrefl
 have hc2 : ua = ud := hab
 have st3 : own_K p e below s₁ m 21 #[.val (.long ua), .second, .val (.long ud), .second] [.int 0] B0 := fun t kt => st0 t (by
  refine XS.lloadN X0.here hx rfl (hb hby d9_0) rfl ?_
  refine XS.lloadN X0.here hx rfl (hb hby d9_1) rfl ?_
  refine XS.lcmp X0.here hx rfl (hb hby d9_2) rfl ?_
  refine XS.ifYes X0.here hx rfl (pc0 := 3) (pc' := 10) rfl (hb hby d9_3) rfl ((if0 _ _).trans (flt (fun q => hc1 ((lw_lt _ _).mp q))).2.1) (by decide) (by decide) ?_
  refine XS.lloadN X0.here hx rfl (hb hby d9_10) rfl ?_
  refine XS.lloadN X0.here hx rfl (hb hby d9_11) rfl ?_
  refine XS.lcmp X0.here hx rfl (hb hby d9_12) rfl ?_
  refine XS.ifNo X0.here hx rfl (hb hby d9_13) rfl ((if0 _ _).trans (teq ((lw_eq _ _).mpr hc2)).2) ?_
  refine XS.iconst X0.here hx rfl (hb hby d9_16) ?_
  refine XS.goto X0.here hx rfl (pc0 := 17) (pc' := 21) rfl (hb hby d9_17) (by decide) (by decide) ?_
  exact kt)
 obtain ⟨fs, hr, hrun, hended, hW, hsame⟩ := X0.leave (v := (some (.int 0))) (fun h => by rw [Bd.returns] at h; cases h)
 subst hB0
 refine ⟨_, _, st3 _ ?_, hrun, hended, _, _, rfl, ?_, ⟨_, rfl⟩, hW, hsame.mono (by decide) (by decide)⟩
 ·exact retOut X0 hx Bd.returns rfl (Or.inl ⟨rfl, Or.inl rfl, _, rfl⟩) (hb hby d9_21) hr
 ·show Q_rm_lc Z ua ud h0 n0 _ s₁.heap _
  rw [e0]
  exact ⟨rfl, N0, rfl⟩
def Q_rm_xj (Z : State) (ao : Addr) (ua : Int64) (h0 : Heap) (n0 : Nat) (v : Option Value) (h : Heap) (L : List Loc) : Prop := v = none ∧ Fr n0 L ∧ Keep h0 h [ao] ∧ Fld Z h ao "com/example/pactum/pactum/admission/ExactSum" "value" "J" (.long ua) ∧ Fld Z h ao "com/example/pactum/pactum/admission/ExactSum" "beyond" "Ljava/math/BigInteger;" .null
set_option maxRecDepth 65536 in
set_option maxHeartbeats 40000000 in
theorem rm_xj (l : Launch) (Z : State) (a0 : Array Value) (hw : ∀ d ∈ tables_1, d.before a0 Z = true) (ws : List Jvm.Cond) (ao : Addr) (ua : Int64) (h0 : Heap) (n0 : Nat) (Z0 : n0 ≤ h0.size) (E_ao : Exa Z h0 ao "com/example/pactum/pactum/admission/ExactSum") (g_ao : n0 ≤ ao) (F_value_ao : Fld Z h0 ao "com/example/pactum/pactum/admission/ExactSum" "value" "J" (.long (0 : Int64))) (F_beyond_ao : Fld Z h0 ao "com/example/pactum/pactum/admission/ExactSum" "beyond" "Ljava/math/BigInteger;" .null) :
  MetFree l (⟨"com/example/pactum/pactum/admission/ExactSum", "<init>", "(J)V"⟩ : MethodName) (head1 (Jvm.Cond.code (⟨"com/example/pactum/pactum/admission/ExactSum", "<init>", "(J)V"⟩ : MethodName) prog_25_method_2_code 3 none :: ws) ({ frames := 1, cells := 0, slots := 0, locals := 12 } : Room)) (fun a U => a = #[.ref ao, .long ua] ∧ Z.Warmed39 U.vm ∧ U.heap = h0) (fun _ _ _ _ _ => True) (fun _ U o U' => ∃ v L, o = .returned v ∧ Q_rm_xj Z ao ua h0 n0 v U'.heap L ∧ FrameEnd U o U' L ({ frames := 1, cells := 0, slots := 0, locals := 12 } : Room).cells ({ frames := 1, cells := 0, slots := 0, locals := 12 } : Room).slots) := by
 refine MetFree.of_bodySF (plainFor_of_name own_pn4) hisR ?_
 intro p e s m args below meth c s₁ Bd hml0 hP hK
 obtain ⟨rfl, hZ, hh⟩ := hP
 have hx := Bd.exec
 have hby := Bd.bytes
 have hml : c.maxLocals = 3 := hml0
 have hown : s.vm.findClass "com/example/pactum/pactum/admission/ExactSum" = some m.cls := findClass_of_methodNamed Bd.named
 have hnm := (name_of_methodNamed Bd.named Bd.method).1
 have X0 : Stand p l e ({ frames := 1, cells := 0, slots := 0, locals := 12 } : Room) s m #[.ref ao, .long ua] below meth c s₁ [] 0 0 := Stand.of_body Bd
 have e0 : s₁.heap = h0 := by rw [← hh, Bd.state]; rfl
 have N0 := Fr.nil n0
 obtain ⟨B0, hB0⟩ : ∃ B, B = (s₁.setTop (entryFrame m #[.ref ao, .long ua] 3)) := ⟨_, rfl⟩
 have st0 : own_K p e below s₁ m 0 #[rv ao, .val (.long ua), .second] [] B0 := fun t kk0 => hB0 ▸ castTop (own_ef1_RJ m ao ua) kk0
 have k0 : Keep h0 h0 [ao] := Keep.refl _ _
 have st1 : own_K p e below s₁ m 1 #[rv ao, .val (.long ua), .second] [.ref ao] B0 := fun t kt => st0 t (by
  refine XS.aloadN X0.here hx rfl (hb hby d1_0) rfl rfl ?_
  exact kt)
 obtain ⟨T2, X2, e2, ls2⟩ := initO X0 hx hZ hown (own_w hw 6 rfl) (own_w hw 7 rfl) (own_w hw 8 rfl) e0 (g := (mkF m 1 #[rv ao, .val (.long ua), .second] [.ref ao])) rfl (by rw [hml]; rfl) rfl (hb hby d1_1) (by decide) (W := 0) (by show 2 * 0 + _ ≤ _; exact Nat.le_of_eq rfl) (by decide)
 have st3 := fun t kt => st1 t (ls2 t kt)
 have st4 : own_K p e below T2 m 6 #[rv ao, .val (.long ua), .second] [.long ua, .ref ao] B0 := fun t kt => st3 t (by
  refine XS.aloadN X2.here hx rfl (hb hby d1_4) rfl rfl ?_
  refine XS.lloadN X2.here hx rfl (hb hby d1_5) rfl ?_
  exact kt)
 obtain ⟨T5, h5, X5, e5, W5, ls5⟩ := putF X2 hx hZ hown (host := "") (Or.inl (own_w hw 9 rfl)) Via.refl e2 F_value_ao E_ao (Or.inl (own_w hw 10 rfl)) (own_w hw 1 rfl) (ty := .long) (by decide) rfl rfl (g := (mkF m 6 #[rv ao, .val (.long ua), .second] [.long ua, .ref ao])) rfl rfl (hb hby d1_6)
 have N5 := Fr.snoc X5 N0 g_ao
 have f7 := F_value_ao.same W5
 have f8 := F_beyond_ao.other W5 (Or.inr (own_s20_10 hw))
 have z9 := Nat.le_trans Z0 (Keep.of_wr W5).1
 have k10 := k0.wr W5 (Or.inl (List.mem_of_getElem? (i := 0) rfl))
 have st11 := fun t kt => st4 t (ls5 t kt)
 obtain ⟨fs, hr, hrun, hended, hW, hsame⟩ := X5.leave (v := none) (fun _ => rfl)
 subst hB0
 refine ⟨_, _, st11 _ ?_, hrun, hended, _, _, rfl, ?_, ⟨_, rfl⟩, hW, hsame.mono (by decide) (by decide)⟩
 ·exact X5.returnOut hx Bd.returns (hb hby d1_9) hr
 ·show Q_rm_xj Z ao ua h0 n0 _ T5.heap _
  rw [e5]
  exact ⟨rfl, N5, k10, f7, f8⟩
def Q_rm_x0 (Z : State) (ao : Addr) (h0 : Heap) (n0 : Nat) (v : Option Value) (h : Heap) (L : List Loc) : Prop := v = none ∧ Fr n0 L ∧ h = h0
set_option maxRecDepth 65536 in
set_option maxHeartbeats 40000000 in
theorem rm_x0 (l : Launch) (Z : State) (a0 : Array Value) (hw : ∀ d ∈ tables_1, d.before a0 Z = true) (ws : List Jvm.Cond) (ao : Addr) (h0 : Heap) (n0 : Nat) (Z0 : n0 ≤ h0.size) :
  MetFree l (⟨"com/example/pactum/pactum/admission/ExactSum", "<init>", "()V"⟩ : MethodName) (head1 (Jvm.Cond.code (⟨"com/example/pactum/pactum/admission/ExactSum", "<init>", "()V"⟩ : MethodName) prog_25_method_1_code 1 none :: ws) ({ frames := 1, cells := 0, slots := 0, locals := 12 } : Room)) (fun a U => a = #[.ref ao] ∧ Z.Warmed39 U.vm ∧ U.heap = h0) (fun _ _ _ _ _ => True) (fun _ U o U' => ∃ v L, o = .returned v ∧ Q_rm_x0 Z ao h0 n0 v U'.heap L ∧ FrameEnd U o U' L ({ frames := 1, cells := 0, slots := 0, locals := 12 } : Room).cells ({ frames := 1, cells := 0, slots := 0, locals := 12 } : Room).slots) := by
 refine MetFree.of_bodySF (plainFor_of_name own_pn4) hisR ?_
 intro p e s m args below meth c s₁ Bd hml0 hP hK
 obtain ⟨rfl, hZ, hh⟩ := hP
 have hx := Bd.exec
 have hby := Bd.bytes
 have hml : c.maxLocals = 1 := hml0
 have hown : s.vm.findClass "com/example/pactum/pactum/admission/ExactSum" = some m.cls := findClass_of_methodNamed Bd.named
 have hnm := (name_of_methodNamed Bd.named Bd.method).1
 have X0 : Stand p l e ({ frames := 1, cells := 0, slots := 0, locals := 12 } : Room) s m #[.ref ao] below meth c s₁ [] 0 0 := Stand.of_body Bd
 have e0 : s₁.heap = h0 := by rw [← hh, Bd.state]; rfl
 have N0 := Fr.nil n0
 obtain ⟨B0, hB0⟩ : ∃ B, B = (s₁.setTop (entryFrame m #[.ref ao] 1)) := ⟨_, rfl⟩
 have st0 : own_K p e below s₁ m 0 #[rv ao] [] B0 := fun t kk0 => hB0 ▸ castTop (own_ef3_R m ao) kk0
 have st1 : own_K p e below s₁ m 1 #[rv ao] [.ref ao] B0 := fun t kt => st0 t (by
  refine XS.aloadN X0.here hx rfl (hb hby d3_0) rfl rfl ?_
  exact kt)
 obtain ⟨T2, X2, e2, ls2⟩ := initO X0 hx hZ hown (own_w hw 6 rfl) (own_w hw 7 rfl) (own_w hw 8 rfl) e0 (g := (mkF m 1 #[rv ao] [.ref ao])) rfl (by rw [hml]; rfl) rfl (hb hby d3_1) (by decide) (W := 0) (by show 2 * 0 + _ ≤ _; exact Nat.le_of_eq rfl) (by decide)
 have st3 := fun t kt => st1 t (ls2 t kt)
 obtain ⟨fs, hr, hrun, hended, hW, hsame⟩ := X2.leave (v := none) (fun _ => rfl)
 subst hB0
 refine ⟨_, _, st3 _ ?_, hrun, hended, _, _, rfl, ?_, ⟨_, rfl⟩, hW, hsame.mono (by decide) (by decide)⟩
 ·exact X2.returnOut hx Bd.returns (hb hby d3_4) hr
 ·show Q_rm_x0 Z ao h0 n0 _ T2.heap _
  rw [e2]
  exact ⟨rfl, N0, rfl⟩
def Q_rm_aj (Z : State) (ao : Addr) (ua : Int64) (h0 : Heap) (n0 : Nat) (v : Option Value) (h : Heap) (L : List Loc) : Prop := v = none ∧ Fr n0 L ∧ Keep h0 h [ao] ∧ Fld Z h ao "com/example/pactum/pactum/admission/ExactSum" "value" "J" (.long ua) ∧ Fld Z h ao "com/example/pactum/pactum/admission/ExactSum" "beyond" "Ljava/math/BigInteger;" .null
set_option maxRecDepth 65536 in
set_option maxHeartbeats 40000000 in
theorem rm_aj (l : Launch) (Z : State) (a0 : Array Value) (hw : ∀ d ∈ tables_1, d.before a0 Z = true) (ws : List Jvm.Cond) (ao : Addr) (ua : Int64) (h0 : Heap) (n0 : Nat) (Z0 : n0 ≤ h0.size) (E_ao : Exa Z h0 ao "com/example/pactum/pactum/admission/ExactSum") (g_ao : n0 ≤ ao) (F_value_ao : Fld Z h0 ao "com/example/pactum/pactum/admission/ExactSum" "value" "J" (.long (0 : Int64))) (F_beyond_ao : Fld Z h0 ao "com/example/pactum/pactum/admission/ExactSum" "beyond" "Ljava/math/BigInteger;" .null) :
  MetFree l (⟨"com/example/pactum/pactum/admission/ExactSum", "add", "(J)V"⟩ : MethodName) (head1 (Jvm.Cond.code (⟨"com/example/pactum/pactum/admission/ExactSum", "add", "(J)V"⟩ : MethodName) prog_25_method_10_code 5 none :: ws) ({ frames := 0, cells := 0, slots := 0, locals := 0 } : Room)) (fun a U => a = #[.ref ao, .long ua] ∧ Z.Warmed39 U.vm ∧ U.heap = h0) (fun _ _ _ _ _ => True) (fun _ U o U' => ∃ v L, o = .returned v ∧ Q_rm_aj Z ao ua h0 n0 v U'.heap L ∧ FrameEnd U o U' L ({ frames := 0, cells := 0, slots := 0, locals := 0 } : Room).cells ({ frames := 0, cells := 0, slots := 0, locals := 0 } : Room).slots) := by
 refine MetFree.of_bodySF (plainFor_of_name own_pn4) hisR ?_
 intro p e s m args below meth c s₁ Bd hml0 hP hK
 obtain ⟨rfl, hZ, hh⟩ := hP
 have hx := Bd.exec
 have hby := Bd.bytes
 have hml : c.maxLocals = 5 := hml0
 have hown : s.vm.findClass "com/example/pactum/pactum/admission/ExactSum" = some m.cls := findClass_of_methodNamed Bd.named
 have hnm := (name_of_methodNamed Bd.named Bd.method).1
 have X0 : Stand p l e ({ frames := 0, cells := 0, slots := 0, locals := 0 } : Room) s m #[.ref ao, .long ua] below meth c s₁ [] 0 0 := Stand.of_body Bd
 have e0 : s₁.heap = h0 := by rw [← hh, Bd.state]; rfl
 have N0 := Fr.nil n0
 obtain ⟨B0, hB0⟩ : ∃ B, B = (s₁.setTop (entryFrame m #[.ref ao, .long ua] 5)) := ⟨_, rfl⟩
 have st0 : own_K p e below s₁ m 0 #[rv ao, .val (.long ua), .second, .unset, .unset] [] B0 := fun t kk0 => hB0 ▸ castTop (own_ef4_RJ m ao ua) kk0
 have k0 : Keep h0 h0 [ao] := Keep.refl _ _
 have st1 : own_K p e below s₁ m 1 #[rv ao, .val (.long ua), .second, .unset, .unset] [.ref ao] B0 := fun t kt => st0 t (by
  refine XS.aloadN X0.here hx rfl (hb hby d4_0) rfl rfl ?_
  exact kt)
 obtain ⟨T2, X2, e2, ls2⟩ := getF X0 hx hZ hown (host := "") (Or.inl (own_w hw 9 rfl)) Via.refl e0 F_value_ao (g := (mkF m 1 #[rv ao, .val (.long ua), .second, .unset, .unset] [.ref ao])) rfl rfl (hb hby d4_1)
 have st3 := fun t kt => st1 t (ls2 t kt)
 have st4 : own_K p e below T2 m 8 #[rv ao, .val (.long ua), .second, .val (.long ua), .second] [.ref ao] B0 := fun t kt => st3 t (by
  refine XS.lloadN X2.here hx rfl (hb hby d4_4) rfl ?_
  refine XS.ladd X2.here hx rfl (hb hby d4_5) rfl ?_
  show own_At p e below T2 m 6 #[rv ao, .val (.long ua), .second, .unset, .unset] [(.long ((0 : Int64) + ua))] _
  rw [show ((0 : Int64) + ua) = ua from (Int64.zero_add ua)]
  refine XS.lstoreN X2.here hx rfl (hb hby d4_6) rfl (l' := #[rv ao, .val (.long ua), .second, .val (.long ua), .second]) rfl ?_
  refine XS.aloadN X2.here hx rfl (hb hby d4_7) rfl rfl ?_
  exact kt)
 obtain ⟨T5, X5, e5, ls5⟩ := getF X2 hx hZ hown (host := "") (Or.inl (own_w hw 19 rfl)) Via.refl e2 F_beyond_ao (g := (mkF m 8 #[rv ao, .val (.long ua), .second, .val (.long ua), .second] [.ref ao])) rfl rfl (hb hby d4_8)
 have st6 := fun t kt => st4 t (ls5 t kt)
 have st7 : own_K p e below T5 m 15 #[rv ao, .val (.long ua), .second, .val (.long ua), .second] [.ref ao] B0 := fun t kt => st6 t (by
  refine XS.ifnonnullNo X5.here hx rfl (hb hby d4_11) rfl ?_
  refine XS.aloadN X5.here hx rfl (hb hby d4_14) rfl rfl ?_
  exact kt)
 obtain ⟨T8, X8, e8, ls8⟩ := getF X5 hx hZ hown (host := "") (Or.inl (own_w hw 9 rfl)) Via.refl e5 F_value_ao (g := (mkF m 15 #[rv ao, .val (.long ua), .second, .val (.long ua), .second] [.ref ao])) rfl rfl (hb hby d4_15)
 have st9 := fun t kt => st7 t (ls8 t kt)
 have hc10 : ¬ ((0 : Int64) < (0 : Int64)) := by decide
 have st11 : own_K p e below T8 m 31 #[rv ao, .val (.long ua), .second, .val (.long ua), .second] [.long ua, .ref ao] B0 := fun t kt => st9 t (by
  refine XS.lloadN X8.here hx rfl (hb hby d4_18) rfl ?_
  refine XS.lxor X8.here hx rfl (hb hby d4_19) rfl ?_
  refine XS.lloadN X8.here hx rfl (hb hby d4_20) rfl ?_
  refine XS.lloadN X8.here hx rfl (hb hby d4_21) rfl ?_
  refine XS.lxor X8.here hx rfl (hb hby d4_22) rfl ?_
  refine XS.land X8.here hx rfl (hb hby d4_23) rfl ?_
  show own_At p e below T8 m 24 #[rv ao, .val (.long ua), .second, .val (.long ua), .second] [(.long (((0 : Int64) ^^^ ua) &&& (ua ^^^ ua)))] _
  rw [show (((0 : Int64) ^^^ ua) &&& (ua ^^^ ua)) = (0 : Int64) from (by rw [Int64.xor_self, Int64.and_zero])]
  refine XS.lconst X8.here hx rfl (hb hby d4_24) ?_
  refine XS.lcmp X8.here hx rfl (hb hby d4_25) rfl ?_
  refine XS.ifNo X8.here hx rfl (hb hby d4_26) rfl ((if0 _ _).trans (flt (fun q => hc10 ((lw_lt _ _).mp q))).1) ?_
  refine XS.aloadN X8.here hx rfl (hb hby d4_29) rfl rfl ?_
  refine XS.lloadN X8.here hx rfl (hb hby d4_30) rfl ?_
  exact kt)
 obtain ⟨T12, h12, X12, e12, W12, ls12⟩ := putF X8 hx hZ hown (host := "") (Or.inl (own_w hw 9 rfl)) Via.refl e8 F_value_ao E_ao (Or.inl (own_w hw 10 rfl)) (own_w hw 1 rfl) (ty := .long) (by decide) rfl rfl (g := (mkF m 31 #[rv ao, .val (.long ua), .second, .val (.long ua), .second] [.long ua, .ref ao])) rfl rfl (hb hby d4_31)
 have N12 := Fr.snoc X12 N0 g_ao
 have f14 := F_value_ao.same W12
 have f15 := F_beyond_ao.other W12 (Or.inr (own_s20_10 hw))
 have z16 := Nat.le_trans Z0 (Keep.of_wr W12).1
 have k17 := k0.wr W12 (Or.inl (List.mem_of_getElem? (i := 0) rfl))
 have st18 := fun t kt => st11 t (ls12 t kt)
 have st19 : own_K p e below T12 m 52 #[rv ao, .val (.long ua), .second, .val (.long ua), .second] [] B0 := fun t kt => st18 t (by
  refine XS.goto X12.here hx rfl (pc0 := 34) (pc' := 52) rfl (hb hby d4_34) (by decide) (by decide) ?_
  exact kt)
 obtain ⟨fs, hr, hrun, hended, hW, hsame⟩ := X12.leave (v := none) (fun _ => rfl)
 subst hB0
 refine ⟨_, _, st19 _ ?_, hrun, hended, _, _, rfl, ?_, ⟨_, rfl⟩, hW, hsame.mono (by decide) (by decide)⟩
 ·exact X12.returnOut hx Bd.returns (hb hby d4_52) hr
 ·show Q_rm_aj Z ao ua h0 n0 _ T12.heap _
  rw [e12]
  exact ⟨rfl, N12, k17, f14, f15⟩
def Q_rm_sN (Z : State) (ao : Addr) (ax : Addr) (ua : Int64) (ud : Int64) (ov : Value) (h0 : Heap) (n0 : Nat) (v : Option Value) (h : Heap) (L : List Loc) : Prop := v = none ∧ Fr n0 L ∧ Keep h0 h [ao] ∧ Fld Z h ao "com/example/pactum/pactum/admission/ExactSum" "value" "J" (.long ua) ∧ Fld Z h ao "com/example/pactum/pactum/admission/ExactSum" "beyond" "Ljava/math/BigInteger;" .null
set_option maxRecDepth 65536 in
set_option maxHeartbeats 40000000 in
theorem rm_sN (l : Launch) (Z : State) (a0 : Array Value) (hw : ∀ d ∈ tables_1, d.before a0 Z = true) (ws : List Jvm.Cond) (ao : Addr) (ax : Addr) (ua : Int64) (ud : Int64) (ov : Value) (h0 : Heap) (n0 : Nat) (Z0 : n0 ≤ h0.size) (E_ao : Exa Z h0 ao "com/example/pactum/pactum/admission/ExactSum") (g_ao : n0 ≤ ao) (F_value_ao : Fld Z h0 ao "com/example/pactum/pactum/admission/ExactSum" "value" "J" (.long ud)) (F_beyond_ao : Fld Z h0 ao "com/example/pactum/pactum/admission/ExactSum" "beyond" "Ljava/math/BigInteger;" ov) (F_value_ax : Fld Z h0 ax "com/example/pactum/pactum/admission/ExactSum" "value" "J" (.long ua)) (F_beyond_ax : Fld Z h0 ax "com/example/pactum/pactum/admission/ExactSum" "beyond" "Ljava/math/BigInteger;" .null) (ne_ao_ax : ao ≠ ax) :
  MetFree l (⟨"com/example/pactum/pactum/admission/ExactSum", "set", "(Lcom/example/pactum/pactum/admission/ExactSum;)V"⟩ : MethodName) (head1 (Jvm.Cond.code (⟨"com/example/pactum/pactum/admission/ExactSum", "set", "(Lcom/example/pactum/pactum/admission/ExactSum;)V"⟩ : MethodName) prog_25_method_4_code 2 none :: ws) ({ frames := 0, cells := 0, slots := 0, locals := 0 } : Room)) (fun a U => a = #[.ref ao, .ref ax] ∧ Z.Warmed39 U.vm ∧ U.heap = h0) (fun _ _ _ _ _ => True) (fun _ U o U' => ∃ v L, o = .returned v ∧ Q_rm_sN Z ao ax ua ud ov h0 n0 v U'.heap L ∧ FrameEnd U o U' L ({ frames := 0, cells := 0, slots := 0, locals := 0 } : Room).cells ({ frames := 0, cells := 0, slots := 0, locals := 0 } : Room).slots) := by
 refine MetFree.of_bodySF (plainFor_of_name own_pn4) hisR ?_
 intro p e s m args below meth c s₁ Bd hml0 hP hK
 obtain ⟨rfl, hZ, hh⟩ := hP
 have hx := Bd.exec
 have hby := Bd.bytes
 have hml : c.maxLocals = 2 := hml0
 have hown : s.vm.findClass "com/example/pactum/pactum/admission/ExactSum" = some m.cls := findClass_of_methodNamed Bd.named
 have hnm := (name_of_methodNamed Bd.named Bd.method).1
 have X0 : Stand p l e ({ frames := 0, cells := 0, slots := 0, locals := 0 } : Room) s m #[.ref ao, .ref ax] below meth c s₁ [] 0 0 := Stand.of_body Bd
 have e0 : s₁.heap = h0 := by rw [← hh, Bd.state]; rfl
 have N0 := Fr.nil n0
 obtain ⟨B0, hB0⟩ : ∃ B, B = (s₁.setTop (entryFrame m #[.ref ao, .ref ax] 2)) := ⟨_, rfl⟩
 have st0 : own_K p e below s₁ m 0 #[rv ao, rv ax] [] B0 := fun t kk0 => hB0 ▸ castTop (own_ef5_RR m ao ax) kk0
 have k0 : Keep h0 h0 [ao] := Keep.refl _ _
 have st1 : own_K p e below s₁ m 2 #[rv ao, rv ax] [.ref ax, .ref ao] B0 := fun t kt => st0 t (by
  refine XS.aloadN X0.here hx rfl (hb hby d5_0) rfl rfl ?_
  refine XS.aloadN X0.here hx rfl (hb hby d5_1) rfl rfl ?_
  exact kt)
 obtain ⟨T2, X2, e2, ls2⟩ := getF X0 hx hZ hown (host := "") (Or.inl (own_w hw 9 rfl)) Via.refl e0 F_value_ax (g := (mkF m 2 #[rv ao, rv ax] [.ref ax, .ref ao])) rfl rfl (hb hby d5_2)
 have st3 := fun t kt => st1 t (ls2 t kt)
 obtain ⟨T4, h4, X4, e4, W4, ls4⟩ := putF X2 hx hZ hown (host := "") (Or.inl (own_w hw 9 rfl)) Via.refl e2 F_value_ao E_ao (Or.inl (own_w hw 10 rfl)) (own_w hw 1 rfl) (ty := .long) (by decide) rfl rfl (g := (mkF m 5 #[rv ao, rv ax] [.long ua, .ref ao])) rfl rfl (hb hby d5_5)
 have N4 := Fr.snoc X4 N0 g_ao
 have f5 := E_ao.wr W4
 have f6 := F_value_ao.same W4
 have f7 := F_beyond_ao.other W4 (Or.inr (own_s20_10 hw))
 have f9 := F_beyond_ax.other W4 (Or.inl (Ne.symm ne_ao_ax))
 have z10 := Nat.le_trans Z0 (Keep.of_wr W4).1
 have k11 := k0.wr W4 (Or.inl (List.mem_of_getElem? (i := 0) rfl))
 have st12 := fun t kt => st3 t (ls4 t kt)
 have st13 : own_K p e below T4 m 10 #[rv ao, rv ax] [.ref ax, .ref ao] B0 := fun t kt => st12 t (by
  refine XS.aloadN X4.here hx rfl (hb hby d5_8) rfl rfl ?_
  refine XS.aloadN X4.here hx rfl (hb hby d5_9) rfl rfl ?_
  exact kt)
 obtain ⟨T14, X14, e14, ls14⟩ := getF X4 hx hZ hown (host := "") (Or.inl (own_w hw 19 rfl)) Via.refl e4 f9 (g := (mkF m 10 #[rv ao, rv ax] [.ref ax, .ref ao])) rfl rfl (hb hby d5_10)
 have st15 := fun t kt => st13 t (ls14 t kt)
 obtain ⟨T16, h16, X16, e16, W16, ls16⟩ := putF X14 hx hZ hown (host := "") (Or.inl (own_w hw 19 rfl)) Via.refl e14 f7 f5 (Or.inl (own_w hw 20 rfl)) (own_w hw 1 rfl) (ty := (.object "java/math/BigInteger")) (by decide) rfl rfl (g := (mkF m 13 #[rv ao, rv ax] [.null, .ref ao])) rfl rfl (hb hby d5_13)
 have N16 := Fr.snoc X16 N4 g_ao
 have f18 := f6.other W16 (Or.inr (own_s10_20 hw))
 have f19 := f7.same W16
 have z22 := Nat.le_trans z10 (Keep.of_wr W16).1
 have k23 := k11.wr W16 (Or.inl (List.mem_of_getElem? (i := 0) rfl))
 have st24 := fun t kt => st15 t (ls16 t kt)
 obtain ⟨fs, hr, hrun, hended, hW, hsame⟩ := X16.leave (v := none) (fun _ => rfl)
 subst hB0
 refine ⟨_, _, st24 _ ?_, hrun, hended, _, _, rfl, ?_, ⟨_, rfl⟩, hW, hsame.mono (by decide) (by decide)⟩
 ·exact X16.returnOut hx Bd.returns (hb hby d5_16) hr
 ·show Q_rm_sN Z ao ax ua ud ov h0 n0 _ T16.heap _
  rw [e16]
  exact ⟨rfl, N16, k23, f18, f19⟩
def Q_rm_sR (Z : State) (ao : Addr) (ax : Addr) (ua : Int64) (ud : Int64) (ov : Value) (bz : Addr) (h0 : Heap) (n0 : Nat) (v : Option Value) (h : Heap) (L : List Loc) : Prop := v = none ∧ Fr n0 L ∧ Keep h0 h [ao] ∧ Fld Z h ao "com/example/pactum/pactum/admission/ExactSum" "value" "J" (.long ua) ∧ Fld Z h ao "com/example/pactum/pactum/admission/ExactSum" "beyond" "Ljava/math/BigInteger;" (.ref bz)
set_option maxRecDepth 65536 in
set_option maxHeartbeats 40000000 in
theorem rm_sR (l : Launch) (Z : State) (a0 : Array Value) (hw : ∀ d ∈ tables_1, d.before a0 Z = true) (ws : List Jvm.Cond) (ao : Addr) (ax : Addr) (ua : Int64) (ud : Int64) (ov : Value) (bz : Addr) (h0 : Heap) (n0 : Nat) (Z0 : n0 ≤ h0.size) (E_ao : Exa Z h0 ao "com/example/pactum/pactum/admission/ExactSum") (g_ao : n0 ≤ ao) (F_value_ao : Fld Z h0 ao "com/example/pactum/pactum/admission/ExactSum" "value" "J" (.long ud)) (F_beyond_ao : Fld Z h0 ao "com/example/pactum/pactum/admission/ExactSum" "beyond" "Ljava/math/BigInteger;" ov) (F_value_ax : Fld Z h0 ax "com/example/pactum/pactum/admission/ExactSum" "value" "J" (.long ua)) (F_beyond_ax : Fld Z h0 ax "com/example/pactum/pactum/admission/ExactSum" "beyond" "Ljava/math/BigInteger;" (.ref bz)) (ne_ao_ax : ao ≠ ax) :
  MetFree l (⟨"com/example/pactum/pactum/admission/ExactSum", "set", "(Lcom/example/pactum/pactum/admission/ExactSum;)V"⟩ : MethodName) (head1 (Jvm.Cond.code (⟨"com/example/pactum/pactum/admission/ExactSum", "set", "(Lcom/example/pactum/pactum/admission/ExactSum;)V"⟩ : MethodName) prog_25_method_4_code 2 none :: ws) ({ frames := 0, cells := 0, slots := 0, locals := 0 } : Room)) (fun a U => a = #[.ref ao, .ref ax] ∧ Z.Warmed39 U.vm ∧ U.heap = h0) (fun _ _ _ _ _ => True) (fun _ U o U' => ∃ v L, o = .returned v ∧ Q_rm_sR Z ao ax ua ud ov bz h0 n0 v U'.heap L ∧ FrameEnd U o U' L ({ frames := 0, cells := 0, slots := 0, locals := 0 } : Room).cells ({ frames := 0, cells := 0, slots := 0, locals := 0 } : Room).slots) := by
 refine MetFree.of_bodySF (plainFor_of_name own_pn4) hisR ?_
 intro p e s m args below meth c s₁ Bd hml0 hP hK
 obtain ⟨rfl, hZ, hh⟩ := hP
 have hx := Bd.exec
 have hby := Bd.bytes
 have hml : c.maxLocals = 2 := hml0
 have hown : s.vm.findClass "com/example/pactum/pactum/admission/ExactSum" = some m.cls := findClass_of_methodNamed Bd.named
 have hnm := (name_of_methodNamed Bd.named Bd.method).1
 have X0 : Stand p l e ({ frames := 0, cells := 0, slots := 0, locals := 0 } : Room) s m #[.ref ao, .ref ax] below meth c s₁ [] 0 0 := Stand.of_body Bd
 have e0 : s₁.heap = h0 := by rw [← hh, Bd.state]; rfl
 have N0 := Fr.nil n0
 obtain ⟨B0, hB0⟩ : ∃ B, B = (s₁.setTop (entryFrame m #[.ref ao, .ref ax] 2)) := ⟨_, rfl⟩
 have st0 : own_K p e below s₁ m 0 #[rv ao, rv ax] [] B0 := fun t kk0 => hB0 ▸ castTop (own_ef5_RR m ao ax) kk0
 have k0 : Keep h0 h0 [ao] := Keep.refl _ _
 have st1 : own_K p e below s₁ m 2 #[rv ao, rv ax] [.ref ax, .ref ao] B0 := fun t kt => st0 t (by
  refine XS.aloadN X0.here hx rfl (hb hby d5_0) rfl rfl ?_
  refine XS.aloadN X0.here hx rfl (hb hby d5_1) rfl rfl ?_
  exact kt)
 obtain ⟨T2, X2, e2, ls2⟩ := getF X0 hx hZ hown (host := "") (Or.inl (own_w hw 9 rfl)) Via.refl e0 F_value_ax (g := (mkF m 2 #[rv ao, rv ax] [.ref ax, .ref ao])) rfl rfl (hb hby d5_2)
 have st3 := fun t kt => st1 t (ls2 t kt)
 obtain ⟨T4, h4, X4, e4, W4, ls4⟩ := putF X2 hx hZ hown (host := "") (Or.inl (own_w hw 9 rfl)) Via.refl e2 F_value_ao E_ao (Or.inl (own_w hw 10 rfl)) (own_w hw 1 rfl) (ty := .long) (by decide) rfl rfl (g := (mkF m 5 #[rv ao, rv ax] [.long ua, .ref ao])) rfl rfl (hb hby d5_5)
 have N4 := Fr.snoc X4 N0 g_ao
 have f5 := E_ao.wr W4
 have f6 := F_value_ao.same W4
 have f7 := F_beyond_ao.other W4 (Or.inr (own_s20_10 hw))
 have f9 := F_beyond_ax.other W4 (Or.inl (Ne.symm ne_ao_ax))
 have z10 := Nat.le_trans Z0 (Keep.of_wr W4).1
 have k11 := k0.wr W4 (Or.inl (List.mem_of_getElem? (i := 0) rfl))
 have st12 := fun t kt => st3 t (ls4 t kt)
 have st13 : own_K p e below T4 m 10 #[rv ao, rv ax] [.ref ax, .ref ao] B0 := fun t kt => st12 t (by
  refine XS.aloadN X4.here hx rfl (hb hby d5_8) rfl rfl ?_
  refine XS.aloadN X4.here hx rfl (hb hby d5_9) rfl rfl ?_
  exact kt)
 obtain ⟨T14, X14, e14, ls14⟩ := getF X4 hx hZ hown (host := "") (Or.inl (own_w hw 19 rfl)) Via.refl e4 f9 (g := (mkF m 10 #[rv ao, rv ax] [.ref ax, .ref ao])) rfl rfl (hb hby d5_10)
 have st15 := fun t kt => st13 t (ls14 t kt)
 obtain ⟨T16, h16, X16, e16, W16, ls16⟩ := putF X14 hx hZ hown (host := "") (Or.inl (own_w hw 19 rfl)) Via.refl e14 f7 f5 (Or.inl (own_w hw 20 rfl)) (own_w hw 1 rfl) (ty := (.object "java/math/BigInteger")) (by decide) rfl rfl (g := (mkF m 13 #[rv ao, rv ax] [.ref bz, .ref ao])) rfl rfl (hb hby d5_13)
 have N16 := Fr.snoc X16 N4 g_ao
 have f18 := f6.other W16 (Or.inr (own_s10_20 hw))
 have f19 := f7.same W16
 have z22 := Nat.le_trans z10 (Keep.of_wr W16).1
 have k23 := k11.wr W16 (Or.inl (List.mem_of_getElem? (i := 0) rfl))
 have st24 := fun t kt => st15 t (ls16 t kt)
 obtain ⟨fs, hr, hrun, hended, hW, hsame⟩ := X16.leave (v := none) (fun _ => rfl)
 subst hB0
 refine ⟨_, _, st24 _ ?_, hrun, hended, _, _, rfl, ?_, ⟨_, rfl⟩, hW, hsame.mono (by decide) (by decide)⟩
 ·exact X16.returnOut hx Bd.returns (hb hby d5_16) hr
 ·show Q_rm_sR Z ao ax ua ud ov bz h0 n0 _ T16.heap _
  rw [e16]
  exact ⟨rfl, N16, k23, f18, f19⟩
def Q_rm_fN (Z : State) (ao : Addr) (h0 : Heap) (n0 : Nat) (v : Option Value) (h : Heap) (L : List Loc) : Prop := v = some (.int 1) ∧ Fr n0 L ∧ h = h0
set_option maxRecDepth 65536 in
set_option maxHeartbeats 40000000 in
theorem rm_fN (l : Launch) (Z : State) (a0 : Array Value) (hw : ∀ d ∈ tables_1, d.before a0 Z = true) (ws : List Jvm.Cond) (ao : Addr) (h0 : Heap) (n0 : Nat) (Z0 : n0 ≤ h0.size) (F_beyond_ao : Fld Z h0 ao "com/example/pactum/pactum/admission/ExactSum" "beyond" "Ljava/math/BigInteger;" .null) :
  MetFree l (⟨"com/example/pactum/pactum/admission/ExactSum", "fitsLong", "()Z"⟩ : MethodName) (head1 (Jvm.Cond.code (⟨"com/example/pactum/pactum/admission/ExactSum", "fitsLong", "()Z"⟩ : MethodName) prog_25_method_5_code 1 (some .boolean) :: ws) ({ frames := 0, cells := 0, slots := 0, locals := 0 } : Room)) (fun a U => a = #[.ref ao] ∧ Z.Warmed39 U.vm ∧ U.heap = h0) (fun _ _ _ _ _ => True) (fun _ U o U' => ∃ v L, o = .returned v ∧ Q_rm_fN Z ao h0 n0 v U'.heap L ∧ FrameEnd U o U' L ({ frames := 0, cells := 0, slots := 0, locals := 0 } : Room).cells ({ frames := 0, cells := 0, slots := 0, locals := 0 } : Room).slots) := by
 refine MetFree.of_bodySF (plainFor_of_name own_pn4) hisR ?_
 intro p e s m args below meth c s₁ Bd hml0 hP hK
 obtain ⟨rfl, hZ, hh⟩ := hP
 have hx := Bd.exec
 have hby := Bd.bytes
 have hml : c.maxLocals = 1 := hml0
 have hown : s.vm.findClass "com/example/pactum/pactum/admission/ExactSum" = some m.cls := findClass_of_methodNamed Bd.named
 have hnm := (name_of_methodNamed Bd.named Bd.method).1
 have X0 : Stand p l e ({ frames := 0, cells := 0, slots := 0, locals := 0 } : Room) s m #[.ref ao] below meth c s₁ [] 0 0 := Stand.of_body Bd
 have e0 : s₁.heap = h0 := by rw [← hh, Bd.state]; rfl
 have N0 := Fr.nil n0
 obtain ⟨B0, hB0⟩ : ∃ B, B = (s₁.setTop (entryFrame m #[.ref ao] 1)) := ⟨_, rfl⟩
 have st0 : own_K p e below s₁ m 0 #[rv ao] [] B0 := fun t kk0 => hB0 ▸ castTop (own_ef6_R m ao) kk0
 have st1 : own_K p e below s₁ m 1 #[rv ao] [.ref ao] B0 := fun t kt => st0 t (by
  refine XS.aloadN X0.here hx rfl (hb hby d6_0) rfl rfl ?_
  exact kt)
 obtain ⟨T2, X2, e2, ls2⟩ := getF X0 hx hZ hown (host := "") (Or.inl (own_w hw 19 rfl)) Via.refl e0 F_beyond_ao (g := (mkF m 1 #[rv ao] [.ref ao])) rfl rfl (hb hby d6_1)
 have st3 := fun t kt => st1 t (ls2 t kt)
 have st4 : own_K p e below T2 m 12 #[rv ao] [.int 1] B0 := fun t kt => st3 t (by
  refine XS.ifnonnullNo X2.here hx rfl (hb hby d6_4) rfl ?_
  refine XS.iconst X2.here hx rfl (hb hby d6_7) ?_
  refine XS.goto X2.here hx rfl (pc0 := 8) (pc' := 12) rfl (hb hby d6_8) (by decide) (by decide) ?_
  exact kt)
 obtain ⟨fs, hr, hrun, hended, hW, hsame⟩ := X2.leave (v := (some (.int 1))) (fun h => by rw [Bd.returns] at h; cases h)
 subst hB0
 refine ⟨_, _, st4 _ ?_, hrun, hended, _, _, rfl, ?_, ⟨_, rfl⟩, hW, hsame.mono (by decide) (by decide)⟩
 ·exact retN X2 hx (t := .boolean) Bd.returns (by simp) (hb hby d6_12) hr
 ·show Q_rm_fN Z ao h0 n0 _ T2.heap _
  rw [e2]
  exact ⟨rfl, N0, rfl⟩
def Q_rm_fR (Z : State) (ao : Addr) (bz : Addr) (h0 : Heap) (n0 : Nat) (v : Option Value) (h : Heap) (L : List Loc) : Prop := v = some (.int 0) ∧ Fr n0 L ∧ h = h0
set_option maxRecDepth 65536 in
set_option maxHeartbeats 40000000 in
theorem rm_fR (l : Launch) (Z : State) (a0 : Array Value) (hw : ∀ d ∈ tables_1, d.before a0 Z = true) (ws : List Jvm.Cond) (ao : Addr) (bz : Addr) (h0 : Heap) (n0 : Nat) (Z0 : n0 ≤ h0.size) (F_beyond_ao : Fld Z h0 ao "com/example/pactum/pactum/admission/ExactSum" "beyond" "Ljava/math/BigInteger;" (.ref bz)) :
  MetFree l (⟨"com/example/pactum/pactum/admission/ExactSum", "fitsLong", "()Z"⟩ : MethodName) (head1 (Jvm.Cond.code (⟨"com/example/pactum/pactum/admission/ExactSum", "fitsLong", "()Z"⟩ : MethodName) prog_25_method_5_code 1 (some .boolean) :: ws) ({ frames := 0, cells := 0, slots := 0, locals := 0 } : Room)) (fun a U => a = #[.ref ao] ∧ Z.Warmed39 U.vm ∧ U.heap = h0) (fun _ _ _ _ _ => True) (fun _ U o U' => ∃ v L, o = .returned v ∧ Q_rm_fR Z ao bz h0 n0 v U'.heap L ∧ FrameEnd U o U' L ({ frames := 0, cells := 0, slots := 0, locals := 0 } : Room).cells ({ frames := 0, cells := 0, slots := 0, locals := 0 } : Room).slots) := by
 refine MetFree.of_bodySF (plainFor_of_name own_pn4) hisR ?_
 intro p e s m args below meth c s₁ Bd hml0 hP hK
 obtain ⟨rfl, hZ, hh⟩ := hP
 have hx := Bd.exec
 have hby := Bd.bytes
 have hml : c.maxLocals = 1 := hml0
 have hown : s.vm.findClass "com/example/pactum/pactum/admission/ExactSum" = some m.cls := findClass_of_methodNamed Bd.named
 have hnm := (name_of_methodNamed Bd.named Bd.method).1
 have X0 : Stand p l e ({ frames := 0, cells := 0, slots := 0, locals := 0 } : Room) s m #[.ref ao] below meth c s₁ [] 0 0 := Stand.of_body Bd
 have e0 : s₁.heap = h0 := by rw [← hh, Bd.state]; rfl
 have N0 := Fr.nil n0
 obtain ⟨B0, hB0⟩ : ∃ B, B = (s₁.setTop (entryFrame m #[.ref ao] 1)) := ⟨_, rfl⟩
 have st0 : own_K p e below s₁ m 0 #[rv ao] [] B0 := fun t kk0 => hB0 ▸ castTop (own_ef6_R m ao) kk0
 have st1 : own_K p e below s₁ m 1 #[rv ao] [.ref ao] B0 := fun t kt => st0 t (by
  refine XS.aloadN X0.here hx rfl (hb hby d6_0) rfl rfl ?_
  exact kt)
 obtain ⟨T2, X2, e2, ls2⟩ := getF X0 hx hZ hown (host := "") (Or.inl (own_w hw 19 rfl)) Via.refl e0 F_beyond_ao (g := (mkF m 1 #[rv ao] [.ref ao])) rfl rfl (hb hby d6_1)
 have st3 := fun t kt => st1 t (ls2 t kt)
 have st4 : own_K p e below T2 m 12 #[rv ao] [.int 0] B0 := fun t kt => st3 t (by
  refine XS.ifnonnullYes X2.here hx rfl (pc0 := 4) (pc' := 11) rfl (hb hby d6_4) rfl (by decide) (by decide) ?_
  refine XS.iconst X2.here hx rfl (hb hby d6_11) ?_
  exact kt)
 obtain ⟨fs, hr, hrun, hended, hW, hsame⟩ := X2.leave (v := (some (.int 0))) (fun h => by rw [Bd.returns] at h; cases h)
 subst hB0
 refine ⟨_, _, st4 _ ?_, hrun, hended, _, _, rfl, ?_, ⟨_, rfl⟩, hW, hsame.mono (by decide) (by decide)⟩
 ·exact retN X2 hx (t := .boolean) Bd.returns (by simp) (hb hby d6_12) hr
 ·show Q_rm_fR Z ao bz h0 n0 _ T2.heap _
  rw [e2]
  exact ⟨rfl, N0, rfl⟩
def Q_rm_lv (Z : State) (ao : Addr) (ua : Int64) (h0 : Heap) (n0 : Nat) (v : Option Value) (h : Heap) (L : List Loc) : Prop := v = some (.long ua) ∧ Fr n0 L ∧ h = h0
set_option maxRecDepth 65536 in
set_option maxHeartbeats 40000000 in
theorem rm_lv (l : Launch) (Z : State) (a0 : Array Value) (hw : ∀ d ∈ tables_1, d.before a0 Z = true) (ws : List Jvm.Cond) (ao : Addr) (ua : Int64) (h0 : Heap) (n0 : Nat) (Z0 : n0 ≤ h0.size) (F_value_ao : Fld Z h0 ao "com/example/pactum/pactum/admission/ExactSum" "value" "J" (.long ua)) :
  MetFree l (⟨"com/example/pactum/pactum/admission/ExactSum", "longValue", "()J"⟩ : MethodName) (head1 (Jvm.Cond.code (⟨"com/example/pactum/pactum/admission/ExactSum", "longValue", "()J"⟩ : MethodName) prog_25_method_6_code 1 (some .long) :: ws) ({ frames := 0, cells := 0, slots := 0, locals := 0 } : Room)) (fun a U => a = #[.ref ao] ∧ Z.Warmed39 U.vm ∧ U.heap = h0) (fun _ _ _ _ _ => True) (fun _ U o U' => ∃ v L, o = .returned v ∧ Q_rm_lv Z ao ua h0 n0 v U'.heap L ∧ FrameEnd U o U' L ({ frames := 0, cells := 0, slots := 0, locals := 0 } : Room).cells ({ frames := 0, cells := 0, slots := 0, locals := 0 } : Room).slots) := by
 refine MetFree.of_bodySF (plainFor_of_name own_pn4) hisR ?_
 intro p e s m args below meth c s₁ Bd hml0 hP hK
 obtain ⟨rfl, hZ, hh⟩ := hP
 have hx := Bd.exec
 have hby := Bd.bytes
 have hml : c.maxLocals = 1 := hml0
 have hown : s.vm.findClass "com/example/pactum/pactum/admission/ExactSum" = some m.cls := findClass_of_methodNamed Bd.named
 have hnm := (name_of_methodNamed Bd.named Bd.method).1
 have X0 : Stand p l e ({ frames := 0, cells := 0, slots := 0, locals := 0 } : Room) s m #[.ref ao] below meth c s₁ [] 0 0 := Stand.of_body Bd
 have e0 : s₁.heap = h0 := by rw [← hh, Bd.state]; rfl
 have N0 := Fr.nil n0
 obtain ⟨B0, hB0⟩ : ∃ B, B = (s₁.setTop (entryFrame m #[.ref ao] 1)) := ⟨_, rfl⟩
 have st0 : own_K p e below s₁ m 0 #[rv ao] [] B0 := fun t kk0 => hB0 ▸ castTop (own_ef7_R m ao) kk0
 have st1 : own_K p e below s₁ m 1 #[rv ao] [.ref ao] B0 := fun t kt => st0 t (by
  refine XS.aloadN X0.here hx rfl (hb hby d7_0) rfl rfl ?_
  exact kt)
 obtain ⟨T2, X2, e2, ls2⟩ := getF X0 hx hZ hown (host := "") (Or.inl (own_w hw 9 rfl)) Via.refl e0 F_value_ao (g := (mkF m 1 #[rv ao] [.ref ao])) rfl rfl (hb hby d7_1)
 have st3 := fun t kt => st1 t (ls2 t kt)
 obtain ⟨fs, hr, hrun, hended, hW, hsame⟩ := X2.leave (v := (some (.long ua))) (fun h => by rw [Bd.returns] at h; cases h)
 subst hB0
 refine ⟨_, _, st3 _ ?_, hrun, hended, _, _, rfl, ?_, ⟨_, rfl⟩, hW, hsame.mono (by decide) (by decide)⟩
 ·exact retOut X2 hx Bd.returns rfl (Or.inr (Or.inl ⟨rfl, rfl, _, rfl⟩)) (hb hby d7_4) hr
 ·show Q_rm_lv Z ao ua h0 n0 _ T2.heap _
  rw [e2]
  exact ⟨rfl, N0, rfl⟩
def Q_rm_vaN (Z : State) (ao : Addr) (ua : Int64) (h0 : Heap) (n0 : Nat) (v : Option Value) (h : Heap) (L : List Loc) : Prop := ∃ bq mq, v = some (.ref bq) ∧ Fr n0 L ∧ Keep h0 h [] ∧ own_BI Z h bq mq (own_sg ua) (own_n ua) (own_f ua)
set_option maxRecDepth 65536 in
set_option maxHeartbeats 40000000 in
theorem rm_vaN (l : Launch) (Z : State) (a0 : Array Value) (hw : ∀ d ∈ tables_1, d.before a0 Z = true) (ws : List Jvm.Cond) (ao : Addr) (ua : Int64) (h0 : Heap) (n0 : Nat) (Z0 : n0 ≤ h0.size) (F_value_ao : Fld Z h0 ao "com/example/pactum/pactum/admission/ExactSum" "value" "J" (.long ua)) (F_beyond_ao : Fld Z h0 ao "com/example/pactum/pactum/admission/ExactSum" "beyond" "Ljava/math/BigInteger;" .null) (Cs : own_Cs Z h0) :
  MetFree l (⟨"com/example/pactum/pactum/admission/ExactSum", "value", "()Ljava/math/BigInteger;"⟩ : MethodName) (head1 (Jvm.Cond.code (⟨"com/example/pactum/pactum/admission/ExactSum", "value", "()Ljava/math/BigInteger;"⟩ : MethodName) prog_25_method_7_code 1 (some (.object "java/math/BigInteger")) :: ws) ({ frames := 4, cells := 2, slots := 8, locals := 53 } : Room)) (fun a U => a = #[.ref ao] ∧ Z.Warmed39 U.vm ∧ U.heap = h0) (fun _ _ _ _ _ => True) (fun _ U o U' => ∃ v L, o = .returned v ∧ Q_rm_vaN Z ao ua h0 n0 v U'.heap L ∧ FrameEnd U o U' L ({ frames := 4, cells := 2, slots := 8, locals := 53 } : Room).cells ({ frames := 4, cells := 2, slots := 8, locals := 53 } : Room).slots) := by
 refine MetFree.of_bodySF (plainFor_of_name own_pn4) hisR ?_
 intro p e s m args below meth c s₁ Bd hml0 hP hK
 obtain ⟨rfl, hZ, hh⟩ := hP
 have hx := Bd.exec
 have hby := Bd.bytes
 have hml : c.maxLocals = 1 := hml0
 have hown : s.vm.findClass "com/example/pactum/pactum/admission/ExactSum" = some m.cls := findClass_of_methodNamed Bd.named
 have hnm := (name_of_methodNamed Bd.named Bd.method).1
 have X0 : Stand p l e ({ frames := 4, cells := 2, slots := 8, locals := 53 } : Room) s m #[.ref ao] below meth c s₁ [] 0 0 := Stand.of_body Bd
 have e0 : s₁.heap = h0 := by rw [← hh, Bd.state]; rfl
 have N0 := Fr.nil n0
 obtain ⟨B0, hB0⟩ : ∃ B, B = (s₁.setTop (entryFrame m #[.ref ao] 1)) := ⟨_, rfl⟩
 have st0 : own_K p e below s₁ m 0 #[rv ao] [] B0 := fun t kk0 => hB0 ▸ castTop (own_ef12_R m ao) kk0
 have k0 : Keep h0 h0 [] := Keep.refl _ _
 have st1 : own_K p e below s₁ m 1 #[rv ao] [.ref ao] B0 := fun t kt => st0 t (by
  refine XS.aloadN X0.here hx rfl (hb hby d12_0) rfl rfl ?_
  exact kt)
 obtain ⟨T2, X2, e2, ls2⟩ := getF X0 hx hZ hown (host := "") (Or.inl (own_w hw 19 rfl)) Via.refl e0 F_beyond_ao (g := (mkF m 1 #[rv ao] [.ref ao])) rfl rfl (hb hby d12_1)
 have st3 := fun t kt => st1 t (ls2 t kt)
 have st4 : own_K p e below T2 m 8 #[rv ao] [.ref ao] B0 := fun t kt => st3 t (by
  refine XS.ifnonnullNo X2.here hx rfl (hb hby d12_4) rfl ?_
  refine XS.aloadN X2.here hx rfl (hb hby d12_7) rfl rfl ?_
  exact kt)
 obtain ⟨T5, X5, e5, ls5⟩ := getF X2 hx hZ hown (host := "") (Or.inl (own_w hw 9 rfl)) Via.refl e2 F_value_ao (g := (mkF m 8 #[rv ao] [.ref ao])) rfl rfl (hb hby d12_8)
 have st6 := fun t kt => st4 t (ls5 t kt)
 obtain ⟨_, _, ⟨T7, L7, k7, n7⟩, -, X7, ⟨Lc7, hQ7, l7, y7, z7⟩, ls7⟩ := Jvm.LawKit.callS X5 hx (y := (⟨"java/math/BigInteger", "valueOf", "(J)Ljava/math/BigInteger;"⟩ : MethodName)) hown (mvT hZ (own_w hw 61 rfl)) (mvT hZ (own_w hw 62 rfl)) (mvT hZ (own_w hw 63 rfl)) (mvT hZ (own_w hw 64 rfl)) (by decide) (backOf (W := 0) (rm_vo l Z a0 hw [] ua h0 n0 Z0 Cs) hZ (own_w hw 64 rfl) (own_w hw 63 rfl) (by decide) (by decide)) (g := (mkF m 11 #[rv ao] [.long ua])) rfl (by rw [hml]; rfl) (argsL := [.long ua]) (rest := []) (lenOf own_pd9 rfl) rfl (by show 2 * 0 + _ ≤ _; exact Nat.le_of_eq rfl) (hb hby d12_11) (fun _ _ => ⟨rfl, e5, (by decide : 0 + 2 ≤ _), (by decide : 0 + 8 ≤ _)⟩)
 dsimp only [Pt.U, Pt.locs, Pt.cells, Pt.slots] at X7 l7 y7 z7 ls7 hQ7
 subst l7 y7 z7
 obtain ⟨bq7, mq7, rfl, Nq7, Kq7, Bq7⟩ := hQ7
 have N7 := Fr.app N0 Nq7
 have z10 := Nat.le_trans Z0 Kq7.1
 have k11 := Keep.trans k0 Kq7 all0
 have st12 := fun t kt => st6 t (ls7 t kt)
 obtain ⟨Ee7, Fs7, Fm7, Am7⟩ := Bq7
 have st13 : own_K p e below T7 m 21 #[rv ao] [.ref bq7] B0 := fun t kt => st12 t (by
  refine XS.goto X7.here hx rfl (pc0 := 14) (pc' := 21) rfl (hb hby d12_14) (by decide) (by decide) ?_
  exact kt)
 obtain ⟨fs, hr, hrun, hended, hW, hsame⟩ := X7.leave (v := (some (.ref bq7))) (fun h => by rw [Bd.returns] at h; cases h)
 subst hB0
 refine ⟨_, _, st13 _ ?_, hrun, hended, _, _, rfl, ?_, ⟨_, rfl⟩, hW, hsame.mono (by decide) (by decide)⟩
 ·exact retOut X7 hx Bd.returns rfl (Or.inr (Or.inr (Or.inr (Or.inr ⟨rfl, rfl, rfl⟩)))) (hb hby d12_21) hr
 ·show Q_rm_vaN Z ao ua h0 n0 _ T7.heap _
  skip
  exact ⟨_, _, rfl, N7, k11, Ee7, Fs7, Fm7, Am7⟩
def Q_rm_vaR (Z : State) (ao : Addr) (bz : Addr) (h0 : Heap) (n0 : Nat) (v : Option Value) (h : Heap) (L : List Loc) : Prop := v = some (.ref bz) ∧ Fr n0 L ∧ h = h0
set_option maxRecDepth 65536 in
set_option maxHeartbeats 40000000 in
theorem rm_vaR (l : Launch) (Z : State) (a0 : Array Value) (hw : ∀ d ∈ tables_1, d.before a0 Z = true) (ws : List Jvm.Cond) (ao : Addr) (bz : Addr) (h0 : Heap) (n0 : Nat) (Z0 : n0 ≤ h0.size) (F_beyond_ao : Fld Z h0 ao "com/example/pactum/pactum/admission/ExactSum" "beyond" "Ljava/math/BigInteger;" (.ref bz)) :
  MetFree l (⟨"com/example/pactum/pactum/admission/ExactSum", "value", "()Ljava/math/BigInteger;"⟩ : MethodName) (head1 (Jvm.Cond.code (⟨"com/example/pactum/pactum/admission/ExactSum", "value", "()Ljava/math/BigInteger;"⟩ : MethodName) prog_25_method_7_code 1 (some (.object "java/math/BigInteger")) :: ws) ({ frames := 0, cells := 0, slots := 0, locals := 0 } : Room)) (fun a U => a = #[.ref ao] ∧ Z.Warmed39 U.vm ∧ U.heap = h0) (fun _ _ _ _ _ => True) (fun _ U o U' => ∃ v L, o = .returned v ∧ Q_rm_vaR Z ao bz h0 n0 v U'.heap L ∧ FrameEnd U o U' L ({ frames := 0, cells := 0, slots := 0, locals := 0 } : Room).cells ({ frames := 0, cells := 0, slots := 0, locals := 0 } : Room).slots) := by
 refine MetFree.of_bodySF (plainFor_of_name own_pn4) hisR ?_
 intro p e s m args below meth c s₁ Bd hml0 hP hK
 obtain ⟨rfl, hZ, hh⟩ := hP
 have hx := Bd.exec
 have hby := Bd.bytes
 have hml : c.maxLocals = 1 := hml0
 have hown : s.vm.findClass "com/example/pactum/pactum/admission/ExactSum" = some m.cls := findClass_of_methodNamed Bd.named
 have hnm := (name_of_methodNamed Bd.named Bd.method).1
 have X0 : Stand p l e ({ frames := 0, cells := 0, slots := 0, locals := 0 } : Room) s m #[.ref ao] below meth c s₁ [] 0 0 := Stand.of_body Bd
 have e0 : s₁.heap = h0 := by rw [← hh, Bd.state]; rfl
 have N0 := Fr.nil n0
 obtain ⟨B0, hB0⟩ : ∃ B, B = (s₁.setTop (entryFrame m #[.ref ao] 1)) := ⟨_, rfl⟩
 have st0 : own_K p e below s₁ m 0 #[rv ao] [] B0 := fun t kk0 => hB0 ▸ castTop (own_ef12_R m ao) kk0
 have st1 : own_K p e below s₁ m 1 #[rv ao] [.ref ao] B0 := fun t kt => st0 t (by
  refine XS.aloadN X0.here hx rfl (hb hby d12_0) rfl rfl ?_
  exact kt)
 obtain ⟨T2, X2, e2, ls2⟩ := getF X0 hx hZ hown (host := "") (Or.inl (own_w hw 19 rfl)) Via.refl e0 F_beyond_ao (g := (mkF m 1 #[rv ao] [.ref ao])) rfl rfl (hb hby d12_1)
 have st3 := fun t kt => st1 t (ls2 t kt)
 have st4 : own_K p e below T2 m 18 #[rv ao] [.ref ao] B0 := fun t kt => st3 t (by
  refine XS.ifnonnullYes X2.here hx rfl (pc0 := 4) (pc' := 17) rfl (hb hby d12_4) rfl (by decide) (by decide) ?_
  refine XS.aloadN X2.here hx rfl (hb hby d12_17) rfl rfl ?_
  exact kt)
 obtain ⟨T5, X5, e5, ls5⟩ := getF X2 hx hZ hown (host := "") (Or.inl (own_w hw 19 rfl)) Via.refl e2 F_beyond_ao (g := (mkF m 18 #[rv ao] [.ref ao])) rfl rfl (hb hby d12_18)
 have st6 := fun t kt => st4 t (ls5 t kt)
 obtain ⟨fs, hr, hrun, hended, hW, hsame⟩ := X5.leave (v := (some (.ref bz))) (fun h => by rw [Bd.returns] at h; cases h)
 subst hB0
 refine ⟨_, _, st6 _ ?_, hrun, hended, _, _, rfl, ?_, ⟨_, rfl⟩, hW, hsame.mono (by decide) (by decide)⟩
 ·exact retOut X5 hx Bd.returns rfl (Or.inr (Or.inr (Or.inr (Or.inr ⟨rfl, rfl, rfl⟩)))) (hb hby d12_21) hr
 ·show Q_rm_vaR Z ao bz h0 n0 _ T5.heap _
  rw [e5]
  exact ⟨rfl, N0, rfl⟩
def Q_rm_ctN (Z : State) (ao : Addr) (ax : Addr) (ua : Int64) (h0 : Heap) (n0 : Nat) (v : Option Value) (h : Heap) (L : List Loc) : Prop := v = some (.int 0) ∧ Fr n0 L ∧ h = h0
set_option maxRecDepth 65536 in
set_option maxHeartbeats 40000000 in
theorem rm_ctN (l : Launch) (Z : State) (a0 : Array Value) (hw : ∀ d ∈ tables_1, d.before a0 Z = true) (ws : List Jvm.Cond) (ao : Addr) (ax : Addr) (ua : Int64) (h0 : Heap) (n0 : Nat) (Z0 : n0 ≤ h0.size) (F_value_ao : Fld Z h0 ao "com/example/pactum/pactum/admission/ExactSum" "value" "J" (.long ua)) (F_beyond_ao : Fld Z h0 ao "com/example/pactum/pactum/admission/ExactSum" "beyond" "Ljava/math/BigInteger;" .null) (F_value_ax : Fld Z h0 ax "com/example/pactum/pactum/admission/ExactSum" "value" "J" (.long ua)) (F_beyond_ax : Fld Z h0 ax "com/example/pactum/pactum/admission/ExactSum" "beyond" "Ljava/math/BigInteger;" .null) :
  MetFree l (⟨"com/example/pactum/pactum/admission/ExactSum", "compareTo", "(Lcom/example/pactum/pactum/admission/ExactSum;)I"⟩ : MethodName) (head1 (Jvm.Cond.code (⟨"com/example/pactum/pactum/admission/ExactSum", "compareTo", "(Lcom/example/pactum/pactum/admission/ExactSum;)I"⟩ : MethodName) prog_25_method_9_code 2 (some .int) :: ws) ({ frames := 1, cells := 0, slots := 0, locals := 15 } : Room)) (fun a U => a = #[.ref ao, .ref ax] ∧ Z.Warmed39 U.vm ∧ U.heap = h0) (fun _ _ _ _ _ => True) (fun _ U o U' => ∃ v L, o = .returned v ∧ Q_rm_ctN Z ao ax ua h0 n0 v U'.heap L ∧ FrameEnd U o U' L ({ frames := 1, cells := 0, slots := 0, locals := 15 } : Room).cells ({ frames := 1, cells := 0, slots := 0, locals := 15 } : Room).slots) := by
 refine MetFree.of_bodySF (plainFor_of_name own_pn4) hisR ?_
 intro p e s m args below meth c s₁ Bd hml0 hP hK
 obtain ⟨rfl, hZ, hh⟩ := hP
 have hx := Bd.exec
 have hby := Bd.bytes
 have hml : c.maxLocals = 2 := hml0
 have hown : s.vm.findClass "com/example/pactum/pactum/admission/ExactSum" = some m.cls := findClass_of_methodNamed Bd.named
 have hnm := (name_of_methodNamed Bd.named Bd.method).1
 have X0 : Stand p l e ({ frames := 1, cells := 0, slots := 0, locals := 15 } : Room) s m #[.ref ao, .ref ax] below meth c s₁ [] 0 0 := Stand.of_body Bd
 have e0 : s₁.heap = h0 := by rw [← hh, Bd.state]; rfl
 have N0 := Fr.nil n0
 obtain ⟨B0, hB0⟩ : ∃ B, B = (s₁.setTop (entryFrame m #[.ref ao, .ref ax] 2)) := ⟨_, rfl⟩
 have st0 : own_K p e below s₁ m 0 #[rv ao, rv ax] [] B0 := fun t kk0 => hB0 ▸ castTop (own_ef8_RR m ao ax) kk0
 have st1 : own_K p e below s₁ m 1 #[rv ao, rv ax] [.ref ao] B0 := fun t kt => st0 t (by
  refine XS.aloadN X0.here hx rfl (hb hby d8_0) rfl rfl ?_
  exact kt)
 obtain ⟨T2, X2, e2, ls2⟩ := getF X0 hx hZ hown (host := "") (Or.inl (own_w hw 19 rfl)) Via.refl e0 F_beyond_ao (g := (mkF m 1 #[rv ao, rv ax] [.ref ao])) rfl rfl (hb hby d8_1)
 have st3 := fun t kt => st1 t (ls2 t kt)
 have st4 : own_K p e below T2 m 8 #[rv ao, rv ax] [.ref ax] B0 := fun t kt => st3 t (by
  refine XS.ifnonnullNo X2.here hx rfl (hb hby d8_4) rfl ?_
  refine XS.aloadN X2.here hx rfl (hb hby d8_7) rfl rfl ?_
  exact kt)
 obtain ⟨T5, X5, e5, ls5⟩ := getF X2 hx hZ hown (host := "") (Or.inl (own_w hw 19 rfl)) Via.refl e2 F_beyond_ax (g := (mkF m 8 #[rv ao, rv ax] [.ref ax])) rfl rfl (hb hby d8_8)
 have st6 := fun t kt => st4 t (ls5 t kt)
 have st7 : own_K p e below T5 m 15 #[rv ao, rv ax] [.ref ao] B0 := fun t kt => st6 t (by
  refine XS.ifnonnullNo X5.here hx rfl (hb hby d8_11) rfl ?_
  refine XS.aloadN X5.here hx rfl (hb hby d8_14) rfl rfl ?_
  exact kt)
 obtain ⟨T8, X8, e8, ls8⟩ := getF X5 hx hZ hown (host := "") (Or.inl (own_w hw 9 rfl)) Via.refl e5 F_value_ao (g := (mkF m 15 #[rv ao, rv ax] [.ref ao])) rfl rfl (hb hby d8_15)
 have st9 := fun t kt => st7 t (ls8 t kt)
 have st10 : own_K p e below T8 m 19 #[rv ao, rv ax] [.ref ax, .long ua] B0 := fun t kt => st9 t (by
  refine XS.aloadN X8.here hx rfl (hb hby d8_18) rfl rfl ?_
  exact kt)
 obtain ⟨T11, X11, e11, ls11⟩ := getF X8 hx hZ hown (host := "") (Or.inl (own_w hw 9 rfl)) Via.refl e8 F_value_ax (g := (mkF m 19 #[rv ao, rv ax] [.ref ax, .long ua])) rfl rfl (hb hby d8_19)
 have st12 := fun t kt => st10 t (ls11 t kt)
 obtain ⟨_, _, ⟨T13, L13, k13, n13⟩, -, X13, ⟨Lc13, hQ13, l13, y13, z13⟩, ls13⟩ := Jvm.LawKit.callS X11 hx (y := (⟨"java/lang/Long", "compare", "(JJ)I"⟩ : MethodName)) hown (mvT hZ (own_w hw 41 rfl)) (mvT hZ (own_w hw 42 rfl)) (mvT hZ (own_w hw 43 rfl)) (mvT hZ (own_w hw 44 rfl)) (by decide) (backOf (W := 0) (rm_lc l Z a0 hw [] ua ua h0 n0 Z0 rfl) hZ (own_w hw 44 rfl) (own_w hw 43 rfl) (by decide) (by decide)) (g := (mkF m 22 #[rv ao, rv ax] [.long ua, .long ua])) rfl (by rw [hml]; rfl) (argsL := [.long ua, .long ua]) (rest := []) (lenOf own_pd10 rfl) rfl (by show 2 * 0 + _ ≤ _; exact Nat.le_of_eq rfl) (hb hby d8_22) (fun _ _ => ⟨rfl, e11, (by decide : 0 + 0 ≤ _), (by decide : 0 + 0 ≤ _)⟩)
 dsimp only [Pt.U, Pt.locs, Pt.cells, Pt.slots] at X13 l13 y13 z13 ls13 hQ13
 subst l13 y13 z13
 obtain ⟨rfl, Nq13, eq13⟩ := hQ13
 have N13 := Fr.app N0 Nq13
 have st14 := fun t kt => st12 t (ls13 t kt)
 have st15 : own_K p e below T13 m 39 #[rv ao, rv ax] [.int 0] B0 := fun t kt => st14 t (by
  refine XS.goto X13.here hx rfl (pc0 := 25) (pc' := 39) rfl (hb hby d8_25) (by decide) (by decide) ?_
  exact kt)
 obtain ⟨fs, hr, hrun, hended, hW, hsame⟩ := X13.leave (v := (some (.int 0))) (fun h => by rw [Bd.returns] at h; cases h)
 subst hB0
 refine ⟨_, _, st15 _ ?_, hrun, hended, _, _, rfl, ?_, ⟨_, rfl⟩, hW, hsame.mono (by decide) (by decide)⟩
 ·exact retOut X13 hx Bd.returns rfl (Or.inl ⟨rfl, Or.inl rfl, _, rfl⟩) (hb hby d8_39) hr
 ·show Q_rm_ctN Z ao ax ua h0 n0 _ T13.heap _
  rw [eq13]
  exact ⟨rfl, N13, rfl⟩
def Q_rm_ctR (Z : State) (ao : Addr) (ax : Addr) (bx : Addr) (bv : Addr) (mx : Addr) (mv : Addr) (f : Nat → Int32) (h0 : Heap) (n0 : Nat) (v : Option Value) (h : Heap) (L : List Loc) : Prop := v = some (.int 0) ∧ Fr n0 L ∧ h = h0
set_option maxRecDepth 65536 in
set_option maxHeartbeats 40000000 in
theorem rm_ctR (l : Launch) (Z : State) (a0 : Array Value) (hw : ∀ d ∈ tables_1, d.before a0 Z = true) (ws : List Jvm.Cond) (ao : Addr) (ax : Addr) (bx : Addr) (bv : Addr) (mx : Addr) (mv : Addr) (f : Nat → Int32) (h0 : Heap) (n0 : Nat) (Z0 : n0 ≤ h0.size) (E_ao : Exa Z h0 ao "com/example/pactum/pactum/admission/ExactSum") (F_beyond_ao : Fld Z h0 ao "com/example/pactum/pactum/admission/ExactSum" "beyond" "Ljava/math/BigInteger;" (.ref bx)) (E_ax : Exa Z h0 ax "com/example/pactum/pactum/admission/ExactSum") (F_beyond_ax : Fld Z h0 ax "com/example/pactum/pactum/admission/ExactSum" "beyond" "Ljava/math/BigInteger;" (.ref bv)) (E_bx : Exa Z h0 bx "java/math/BigInteger") (F_signum_bx : Fld Z h0 bx "java/math/BigInteger" "signum" "I" (.int 1)) (F_mag_bx : Fld Z h0 bx "java/math/BigInteger" "mag" "[I" (.ref mx)) (A_mx : own_Av Z h0 mx .int 4 (fun q => .int (f q))) (E_bv : Exa Z h0 bv "java/math/BigInteger") (F_signum_bv : Fld Z h0 bv "java/math/BigInteger" "signum" "I" (.int 1)) (F_mag_bv : Fld Z h0 bv "java/math/BigInteger" "mag" "[I" (.ref mv)) (A_mv : own_Av Z h0 mv .int 4 (fun q => .int (f q))) :
  MetFree l (⟨"com/example/pactum/pactum/admission/ExactSum", "compareTo", "(Lcom/example/pactum/pactum/admission/ExactSum;)I"⟩ : MethodName) (head1 (Jvm.Cond.code (⟨"com/example/pactum/pactum/admission/ExactSum", "compareTo", "(Lcom/example/pactum/pactum/admission/ExactSum;)I"⟩ : MethodName) prog_25_method_9_code 2 (some .int) :: ws) ({ frames := 2, cells := 0, slots := 0, locals := 33 } : Room)) (fun a U => a = #[.ref ao, .ref ax] ∧ Z.Warmed39 U.vm ∧ U.heap = h0) (fun _ _ _ _ _ => True) (fun _ U o U' => ∃ v L, o = .returned v ∧ Q_rm_ctR Z ao ax bx bv mx mv f h0 n0 v U'.heap L ∧ FrameEnd U o U' L ({ frames := 2, cells := 0, slots := 0, locals := 33 } : Room).cells ({ frames := 2, cells := 0, slots := 0, locals := 33 } : Room).slots) := by
 refine MetFree.of_bodySF (plainFor_of_name own_pn4) hisR ?_
 intro p e s m args below meth c s₁ Bd hml0 hP hK
 obtain ⟨rfl, hZ, hh⟩ := hP
 have hx := Bd.exec
 have hby := Bd.bytes
 have hml : c.maxLocals = 2 := hml0
 have hown : s.vm.findClass "com/example/pactum/pactum/admission/ExactSum" = some m.cls := findClass_of_methodNamed Bd.named
 have hnm := (name_of_methodNamed Bd.named Bd.method).1
 have X0 : Stand p l e ({ frames := 2, cells := 0, slots := 0, locals := 33 } : Room) s m #[.ref ao, .ref ax] below meth c s₁ [] 0 0 := Stand.of_body Bd
 have e0 : s₁.heap = h0 := by rw [← hh, Bd.state]; rfl
 have N0 := Fr.nil n0
 obtain ⟨B0, hB0⟩ : ∃ B, B = (s₁.setTop (entryFrame m #[.ref ao, .ref ax] 2)) := ⟨_, rfl⟩
 have st0 : own_K p e below s₁ m 0 #[rv ao, rv ax] [] B0 := fun t kk0 => hB0 ▸ castTop (own_ef8_RR m ao ax) kk0
 have st1 : own_K p e below s₁ m 1 #[rv ao, rv ax] [.ref ao] B0 := fun t kt => st0 t (by
  refine XS.aloadN X0.here hx rfl (hb hby d8_0) rfl rfl ?_
  exact kt)
 obtain ⟨T2, X2, e2, ls2⟩ := getF X0 hx hZ hown (host := "") (Or.inl (own_w hw 19 rfl)) Via.refl e0 F_beyond_ao (g := (mkF m 1 #[rv ao, rv ax] [.ref ao])) rfl rfl (hb hby d8_1)
 have st3 := fun t kt => st1 t (ls2 t kt)
 have st4 : own_K p e below T2 m 29 #[rv ao, rv ax] [.ref ao] B0 := fun t kt => st3 t (by
  refine XS.ifnonnullYes X2.here hx rfl (pc0 := 4) (pc' := 28) rfl (hb hby d8_4) rfl (by decide) (by decide) ?_
  refine XS.aloadN X2.here hx rfl (hb hby d8_28) rfl rfl ?_
  exact kt)
 obtain ⟨cq5, kq5, q5a, q5b, q5c⟩ := isOf hZ e2 E_ao
 obtain ⟨_, _, ⟨T5, L5, k5, n5⟩, -, X5, ⟨Lc5, hQ5, l5, y5, z5⟩, ls5⟩ := X2.virtualBack hx (y := (⟨"com/example/pactum/pactum/admission/ExactSum", "value", "()Ljava/math/BigInteger;"⟩ : MethodName)) (z := (⟨"com/example/pactum/pactum/admission/ExactSum", "value", "()Ljava/math/BigInteger;"⟩ : MethodName)) hown (mvT hZ (own_w hw 56 rfl)) (mvT hZ (own_w hw 57 rfl)) (notFace_of_selects (args := #[]) (mvT hZ (own_w hw 59 rfl))) (mvT hZ (own_w hw 59 rfl)) (mvT hZ (own_w hw 58 rfl)) (by decide) (backOf (W := 0) (rm_vaR l Z a0 hw [] ao bx h0 n0 Z0 F_beyond_ao) hZ (own_w hw 60 rfl) (own_w hw 2 rfl) (by decide) (by decide)) q5a q5c (g := (mkF m 29 #[rv ao, rv ax] [.ref ao])) rfl (by rw [hml]; rfl) (Steps.refl _) (argsL := []) (rest := []) (lenOf own_pd11 rfl) rfl (by show 2 * 0 + _ ≤ _; exact Nat.le_of_eq rfl) (hb hby d8_29) (fun _ _ => ⟨rfl, e2, (by decide : 0 + 0 ≤ _), (by decide : 0 + 0 ≤ _)⟩)
 dsimp only [Pt.U, Pt.locs, Pt.cells, Pt.slots] at X5 l5 y5 z5 ls5 hQ5
 subst l5 y5 z5
 obtain ⟨rfl, Nq5, eq5⟩ := hQ5
 have N5 := Fr.app N0 Nq5
 have st6 : own_K p e below T5 m 32 #[rv ao, rv ax] [.ref bx] B0 := fun t kt => st4 t (ls5.trans kt)
 have st7 : own_K p e below T5 m 33 #[rv ao, rv ax] [.ref ax, .ref bx] B0 := fun t kt => st6 t (by
  refine XS.aloadN X5.here hx rfl (hb hby d8_32) rfl rfl ?_
  exact kt)
 obtain ⟨cq8, kq8, q8a, q8b, q8c⟩ := isOf hZ eq5 E_ax
 obtain ⟨_, _, ⟨T8, L8, k8, n8⟩, -, X8, ⟨Lc8, hQ8, l8, y8, z8⟩, ls8⟩ := X5.virtualBack hx (y := (⟨"com/example/pactum/pactum/admission/ExactSum", "value", "()Ljava/math/BigInteger;"⟩ : MethodName)) (z := (⟨"com/example/pactum/pactum/admission/ExactSum", "value", "()Ljava/math/BigInteger;"⟩ : MethodName)) hown (mvT hZ (own_w hw 56 rfl)) (mvT hZ (own_w hw 57 rfl)) (notFace_of_selects (args := #[]) (mvT hZ (own_w hw 59 rfl))) (mvT hZ (own_w hw 59 rfl)) (mvT hZ (own_w hw 58 rfl)) (by decide) (backOf (W := 1) (rm_vaR l Z a0 hw [] ax bv h0 n0 Z0 F_beyond_ax) hZ (own_w hw 60 rfl) (own_w hw 2 rfl) (by decide) (by decide)) q8a q8c (g := (mkF m 33 #[rv ao, rv ax] [.ref ax, .ref bx])) rfl (by rw [hml]; rfl) (Steps.refl _) (argsL := []) (rest := [.ref bx]) (lenOf own_pd11 rfl) rfl (by show 2 * 0 + _ ≤ _; exact Nat.le_of_eq rfl) (hb hby d8_33) (fun _ _ => ⟨rfl, eq5, (by decide : 0 + 0 ≤ _), (by decide : 0 + 0 ≤ _)⟩)
 dsimp only [Pt.U, Pt.locs, Pt.cells, Pt.slots] at X8 l8 y8 z8 ls8 hQ8
 subst l8 y8 z8
 obtain ⟨rfl, Nq8, eq8⟩ := hQ8
 have N8 := Fr.app N5 Nq8
 have st9 : own_K p e below T8 m 36 #[rv ao, rv ax] [.ref bv, .ref bx] B0 := fun t kt => st7 t (ls8.trans kt)
 obtain ⟨cq10, kq10, q10a, q10b, q10c⟩ := isOf hZ eq8 E_bx
 obtain ⟨_, _, ⟨T10, L10, k10, n10⟩, -, X10, ⟨Lc10, hQ10, l10, y10, z10⟩, ls10⟩ := X8.virtualBack hx (y := (⟨"java/math/BigInteger", "compareTo", "(Ljava/math/BigInteger;)I"⟩ : MethodName)) (z := (⟨"java/math/BigInteger", "compareTo", "(Ljava/math/BigInteger;)I"⟩ : MethodName)) hown (mvT hZ (own_w hw 124 rfl)) (mvT hZ (own_w hw 125 rfl)) (notFace_of_selects (args := #[]) (mvT hZ (own_w hw 127 rfl))) (mvT hZ (own_w hw 127 rfl)) (mvT hZ (own_w hw 126 rfl)) (by decide) (backOf (W := 0) (rm_ct l Z a0 hw [] bx bv mx mv f h0 n0 Z0 E_bx F_signum_bx F_mag_bx A_mx E_bv F_signum_bv F_mag_bv A_mv) hZ (own_w hw 128 rfl) (own_w hw 63 rfl) (by decide) (by decide)) q10a q10c (g := (mkF m 36 #[rv ao, rv ax] [.ref bv, .ref bx])) rfl (by rw [hml]; rfl) (Steps.refl _) (argsL := [.ref bv]) (rest := []) (lenOf own_pd7 rfl) rfl (by show 2 * 0 + _ ≤ _; exact Nat.le_of_eq rfl) (hb hby d8_36) (fun _ _ => ⟨rfl, eq8, (by decide : 0 + 0 ≤ _), (by decide : 0 + 0 ≤ _)⟩)
 dsimp only [Pt.U, Pt.locs, Pt.cells, Pt.slots] at X10 l10 y10 z10 ls10 hQ10
 subst l10 y10 z10
 obtain ⟨rfl, Nq10, eq10⟩ := hQ10
 have N10 := Fr.app N8 Nq10
 have st11 : own_K p e below T10 m 39 #[rv ao, rv ax] [.int 0] B0 := fun t kt => st9 t (ls10.trans kt)
 obtain ⟨fs, hr, hrun, hended, hW, hsame⟩ := X10.leave (v := (some (.int 0))) (fun h => by rw [Bd.returns] at h; cases h)
 subst hB0
 refine ⟨_, _, st11 _ ?_, hrun, hended, _, _, rfl, ?_, ⟨_, rfl⟩, hW, hsame.mono (by decide) (by decide)⟩
 ·exact retOut X10 hx Bd.returns rfl (Or.inl ⟨rfl, Or.inl rfl, _, rfl⟩) (hb hby d8_39) hr
 ·show Q_rm_ctR Z ao ax bx bv mx mv f h0 n0 _ T10.heap _
  rw [eq10]
  exact ⟨rfl, N10, rfl⟩
def Q_rm_aJJ (Z : State) (ao : Addr) (ua : Int64) (h0 : Heap) (n0 : Nat) (v : Option Value) (h : Heap) (L : List Loc) : Prop := v = none ∧ Fr n0 L ∧ Keep h0 h [ao] ∧ Fld Z h ao "com/example/pactum/pactum/admission/ExactSum" "value" "J" (.long ua) ∧ ∃ bq mq, Fld Z h ao "com/example/pactum/pactum/admission/ExactSum" "beyond" "Ljava/math/BigInteger;" (.ref bq) ∧ own_BI Z h bq mq 1 4 (own_sum ua) ∧ h0.size ≤ bq ∧ h0.size ≤ mq
set_option maxRecDepth 65536 in
set_option maxHeartbeats 40000000 in
theorem rm_aJJ (l : Launch) (Z : State) (a0 : Array Value) (hw : ∀ d ∈ tables_1, d.before a0 Z = true) (ws : List Jvm.Cond) (ao : Addr) (ua : Int64) (h0 : Heap) (n0 : Nat) (Z0 : n0 ≤ h0.size) (E_ao : Exa Z h0 ao "com/example/pactum/pactum/admission/ExactSum") (g_ao : n0 ≤ ao) (F_value_ao : Fld Z h0 ao "com/example/pactum/pactum/admission/ExactSum" "value" "J" (.long ua)) (F_beyond_ao : Fld Z h0 ao "com/example/pactum/pactum/admission/ExactSum" "beyond" "Ljava/math/BigInteger;" .null) (Cs : own_Cs Z h0) :
  MetFree l (⟨"com/example/pactum/pactum/admission/ExactSum", "add", "(JJ)V"⟩ : MethodName) (head1 (Jvm.Cond.code (⟨"com/example/pactum/pactum/admission/ExactSum", "add", "(JJ)V"⟩ : MethodName) prog_25_method_11_code 9 none :: ws) ({ frames := 5, cells := 10, slots := 44, locals := 76 } : Room)) (fun a U => a = #[.ref ao, .long (9223372036854775807 : Int64), .long (9223372036854775807 : Int64)] ∧ Z.Warmed39 U.vm ∧ U.heap = h0) (fun _ _ _ _ _ => True) (fun _ U o U' => ∃ v L, o = .returned v ∧ Q_rm_aJJ Z ao ua h0 n0 v U'.heap L ∧ FrameEnd U o U' L ({ frames := 5, cells := 10, slots := 44, locals := 76 } : Room).cells ({ frames := 5, cells := 10, slots := 44, locals := 76 } : Room).slots) := by
 refine MetFree.of_bodySF (plainFor_of_name own_pn4) hisR ?_
 intro p e s m args below meth c s₁ Bd hml0 hP hK
 obtain ⟨rfl, hZ, hh⟩ := hP
 have hx := Bd.exec
 have hby := Bd.bytes
 have hml : c.maxLocals = 9 := hml0
 have hown : s.vm.findClass "com/example/pactum/pactum/admission/ExactSum" = some m.cls := findClass_of_methodNamed Bd.named
 have hnm := (name_of_methodNamed Bd.named Bd.method).1
 have X0 : Stand p l e ({ frames := 5, cells := 10, slots := 44, locals := 76 } : Room) s m #[.ref ao, .long (9223372036854775807 : Int64), .long (9223372036854775807 : Int64)] below meth c s₁ [] 0 0 := Stand.of_body Bd
 have e0 : s₁.heap = h0 := by rw [← hh, Bd.state]; rfl
 have N0 := Fr.nil n0
 obtain ⟨B0, hB0⟩ : ∃ B, B = (s₁.setTop (entryFrame m #[.ref ao, .long (9223372036854775807 : Int64), .long (9223372036854775807 : Int64)] 9)) := ⟨_, rfl⟩
 have st0 : own_K p e below s₁ m 0 #[rv ao, .val (.long (9223372036854775807 : Int64)), .second, .val (.long (9223372036854775807 : Int64)), .second, .unset, .unset, .unset, .unset] [] B0 := fun t kk0 => hB0 ▸ castTop (own_ef10_RJJ m ao (9223372036854775807 : Int64) (9223372036854775807 : Int64)) kk0
 have k0 : Keep h0 h0 [ao] := Keep.refl _ _
 have st1 : own_K p e below s₁ m 7 #[rv ao, .val (.long (9223372036854775807 : Int64)), .second, .val (.long (9223372036854775807 : Int64)), .second, .val (.long (1 : Int64)), .second, .unset, .unset] [.long (9223372036854775807 : Int64), .long (9223372036854775807 : Int64)] B0 := fun t kt => st0 t (by
  refine XS.lloadN X0.here hx rfl (hb hby d10_0) rfl ?_
  refine XS.lloadN X0.here hx rfl (hb hby d10_1) rfl ?_
  refine XS.lmul X0.here hx rfl (hb hby d10_2) rfl ?_
  show own_At p e below s₁ m 3 #[rv ao, .val (.long (9223372036854775807 : Int64)), .second, .val (.long (9223372036854775807 : Int64)), .second, .unset, .unset, .unset, .unset] [(.long ((9223372036854775807 : Int64) * (9223372036854775807 : Int64)))] _
  rw [show ((9223372036854775807 : Int64) * (9223372036854775807 : Int64)) = (1 : Int64) from (by decide +kernel)]
  refine XS.lstore X0.here hx rfl (hb hby d10_3) rfl (l' := #[rv ao, .val (.long (9223372036854775807 : Int64)), .second, .val (.long (9223372036854775807 : Int64)), .second, .val (.long (1 : Int64)), .second, .unset, .unset]) rfl ?_
  refine XS.lloadN X0.here hx rfl (hb hby d10_5) rfl ?_
  refine XS.lloadN X0.here hx rfl (hb hby d10_6) rfl ?_
  exact kt)
 obtain ⟨_, _, ⟨T2, L2, k2, n2⟩, -, X2, ⟨Lc2, hQ2, l2, y2, z2⟩, ls2⟩ := Jvm.LawKit.callS X0 hx (y := (⟨"java/lang/Math", "multiplyHigh", "(JJ)J"⟩ : MethodName)) hown (mvT hZ (own_w hw 51 rfl)) (mvT hZ (own_w hw 52 rfl)) (mvT hZ (own_w hw 53 rfl)) (mvT hZ (own_w hw 54 rfl)) (by decide) (backOf (W := 0) (rm_mh l Z a0 hw []  h0 n0 Z0) hZ (own_w hw 54 rfl) (own_w hw 53 rfl) (by decide) (by decide)) (g := (mkF m 7 #[rv ao, .val (.long (9223372036854775807 : Int64)), .second, .val (.long (9223372036854775807 : Int64)), .second, .val (.long (1 : Int64)), .second, .unset, .unset] [.long (9223372036854775807 : Int64), .long (9223372036854775807 : Int64)])) rfl (by rw [hml]; rfl) (argsL := [.long (9223372036854775807 : Int64), .long (9223372036854775807 : Int64)]) (rest := []) (lenOf own_pd12 rfl) rfl (by show 2 * 0 + _ ≤ _; exact Nat.le_of_eq rfl) (hb hby d10_7) (fun _ _ => ⟨rfl, e0, (by decide : 0 + 0 ≤ _), (by decide : 0 + 0 ≤ _)⟩)
 dsimp only [Pt.U, Pt.locs, Pt.cells, Pt.slots] at X2 l2 y2 z2 ls2 hQ2
 subst l2 y2 z2
 obtain ⟨rfl, Nq2, eq2⟩ := hQ2
 have N2 := Fr.app N0 Nq2
 have st3 := fun t kt => st1 t (ls2 t kt)
 have hc4 : ¬ ((4611686018427387903 : Int64) = (0 : Int64)) := by decide
 have st5 : own_K p e below T2 m 34 #[rv ao, .val (.long (9223372036854775807 : Int64)), .second, .val (.long (9223372036854775807 : Int64)), .second, .val (.long (1 : Int64)), .second, .val (.long (4611686018427387903 : Int64)), .second] [.ref ao, .ref ao] B0 := fun t kt => st3 t (by
  refine XS.lstore X2.here hx rfl (hb hby d10_10) rfl (l' := #[rv ao, .val (.long (9223372036854775807 : Int64)), .second, .val (.long (9223372036854775807 : Int64)), .second, .val (.long (1 : Int64)), .second, .val (.long (4611686018427387903 : Int64)), .second]) rfl ?_
  refine XS.lload X2.here hx rfl (hb hby d10_12) rfl ?_
  refine XS.lload X2.here hx rfl (hb hby d10_14) rfl ?_
  refine XS.bipush X2.here hx rfl (hb hby d10_16) ?_
  refine XS.lshr X2.here hx rfl (hb hby d10_18) rfl ?_
  show own_At p e below T2 m 19 #[rv ao, .val (.long (9223372036854775807 : Int64)), .second, .val (.long (9223372036854775807 : Int64)), .second, .val (.long (1 : Int64)), .second, .val (.long (4611686018427387903 : Int64)), .second] [(.long ((1 : Int64) >>> ((63 : Int32) &&& 0x3f).toInt64)), .long (4611686018427387903 : Int64)] _
  rw [show ((1 : Int64) >>> ((63 : Int32) &&& 0x3f).toInt64) = (0 : Int64) from (by decide +kernel)]
  refine XS.lcmp X2.here hx rfl (hb hby d10_19) rfl ?_
  refine XS.ifYes X2.here hx rfl (pc0 := 20) (pc' := 32) rfl (hb hby d10_20) rfl ((if0 _ _).trans (feq (fun q => hc4 ((lw_eq _ _).mp q))).2) (by decide) (by decide) ?_
  refine XS.aloadN X2.here hx rfl (hb hby d10_32) rfl rfl ?_
  refine XS.aloadN X2.here hx rfl (hb hby d10_33) rfl rfl ?_
  exact kt)
 obtain ⟨cq6, kq6, q6a, q6b, q6c⟩ := isOf hZ eq2 E_ao
 obtain ⟨_, _, ⟨T6, L6, k6, n6⟩, -, X6, ⟨Lc6, hQ6, l6, y6, z6⟩, ls6⟩ := X2.virtualBack hx (y := (⟨"com/example/pactum/pactum/admission/ExactSum", "value", "()Ljava/math/BigInteger;"⟩ : MethodName)) (z := (⟨"com/example/pactum/pactum/admission/ExactSum", "value", "()Ljava/math/BigInteger;"⟩ : MethodName)) hown (mvT hZ (own_w hw 56 rfl)) (mvT hZ (own_w hw 57 rfl)) (notFace_of_selects (args := #[]) (mvT hZ (own_w hw 59 rfl))) (mvT hZ (own_w hw 59 rfl)) (mvT hZ (own_w hw 58 rfl)) (by decide) (backOf (W := 1) (rm_vaN l Z a0 hw [] ao ua h0 n0 Z0 F_value_ao F_beyond_ao Cs) hZ (own_w hw 60 rfl) (own_w hw 2 rfl) (by decide) (by decide)) q6a q6c (g := (mkF m 34 #[rv ao, .val (.long (9223372036854775807 : Int64)), .second, .val (.long (9223372036854775807 : Int64)), .second, .val (.long (1 : Int64)), .second, .val (.long (4611686018427387903 : Int64)), .second] [.ref ao, .ref ao])) rfl (by rw [hml]; rfl) (Steps.refl _) (argsL := []) (rest := [.ref ao]) (lenOf own_pd11 rfl) rfl (by show 2 * 0 + _ ≤ _; exact Nat.le_of_eq rfl) (hb hby d10_34) (fun _ _ => ⟨rfl, eq2, (by decide : 0 + 2 ≤ _), (by decide : 0 + 8 ≤ _)⟩)
 dsimp only [Pt.U, Pt.locs, Pt.cells, Pt.slots] at X6 l6 y6 z6 ls6 hQ6
 subst l6 y6 z6
 obtain ⟨bq6, mq6, rfl, Nq6, Kq6, Bq6⟩ := hQ6
 have N6 := Fr.app N2 Nq6
 have f7 := E_ao.keep Kq6
 have f8 := F_value_ao.keep Kq6 nin0
 have f9 := F_beyond_ao.keep Kq6 nin0
 have z10 := Nat.le_trans Z0 Kq6.1
 have k11 := Keep.trans k0 Kq6 all0
 have st12 : own_K p e below T6 m 37 #[rv ao, .val (.long (9223372036854775807 : Int64)), .second, .val (.long (9223372036854775807 : Int64)), .second, .val (.long (1 : Int64)), .second, .val (.long (4611686018427387903 : Int64)), .second] [.ref bq6, .ref ao] B0 := fun t kt => st5 t (ls6.trans kt)
 obtain ⟨Ee6, Fs6, Fm6, Am6⟩ := Bq6
 have st13 : own_K p e below T6 m 38 #[rv ao, .val (.long (9223372036854775807 : Int64)), .second, .val (.long (9223372036854775807 : Int64)), .second, .val (.long (1 : Int64)), .second, .val (.long (4611686018427387903 : Int64)), .second] [.long (9223372036854775807 : Int64), .ref bq6, .ref ao] B0 := fun t kt => st12 t (by
  refine XS.lloadN X6.here hx rfl (hb hby d10_37) rfl ?_
  exact kt)
 have lt14_ao := f7.lt
 have lt14_bq6 := Ee6.lt
 have lt14_mq6 := Am6.lt
 obtain ⟨_, _, ⟨T14, L14, k14, n14⟩, -, X14, ⟨Lc14, hQ14, l14, y14, z14⟩, ls14⟩ := Jvm.LawKit.callS X6 hx (y := (⟨"java/math/BigInteger", "valueOf", "(J)Ljava/math/BigInteger;"⟩ : MethodName)) hown (mvT hZ (own_w hw 61 rfl)) (mvT hZ (own_w hw 62 rfl)) (mvT hZ (own_w hw 63 rfl)) (mvT hZ (own_w hw 64 rfl)) (by decide) (backOf (W := 2) (rm_vm l Z a0 hw []  T6.heap n0 z10) hZ (own_w hw 64 rfl) (own_w hw 63 rfl) (by decide) (by decide)) (g := (mkF m 38 #[rv ao, .val (.long (9223372036854775807 : Int64)), .second, .val (.long (9223372036854775807 : Int64)), .second, .val (.long (1 : Int64)), .second, .val (.long (4611686018427387903 : Int64)), .second] [.long (9223372036854775807 : Int64), .ref bq6, .ref ao])) rfl (by rw [hml]; rfl) (argsL := [.long (9223372036854775807 : Int64)]) (rest := [.ref bq6, .ref ao]) (lenOf own_pd9 rfl) rfl (by show 2 * 0 + _ ≤ _; exact Nat.le_of_eq rfl) (hb hby d10_38) (fun _ _ => ⟨rfl, rfl, (by decide : 2 + 2 ≤ _), (by decide : 8 + 8 ≤ _)⟩)
 dsimp only [Pt.U, Pt.locs, Pt.cells, Pt.slots] at X14 l14 y14 z14 ls14 hQ14
 subst l14 y14 z14
 obtain ⟨bq14, mq14, rfl, Nq14, Kq14, sq14, Bq14⟩ := hQ14
 have N14 := Fr.app N6 Nq14
 have f15 := f7.keep Kq14
 have f16 := f8.keep Kq14 nin0
 have f17 := f9.keep Kq14 nin0
 have f18 := Ee6.keep Kq14
 have f19 := Fs6.keep Kq14 nin0
 have f20 := Fm6.keep Kq14 nin0
 have f21 := Am6.keep Kq14 nin0
 have z22 := Nat.le_trans z10 Kq14.1
 have k23 := Keep.trans k11 Kq14 all0
 have sz_bq14 : h0.size ≤ bq14 := Nat.le_trans k11.1 sq14
 have st24 := fun t kt => st13 t (ls14 t kt)
 obtain ⟨Ee14, Fs14, Fm14, Am14⟩ := Bq14
 have st25 : own_K p e below T14 m 42 #[rv ao, .val (.long (9223372036854775807 : Int64)), .second, .val (.long (9223372036854775807 : Int64)), .second, .val (.long (1 : Int64)), .second, .val (.long (4611686018427387903 : Int64)), .second] [.long (9223372036854775807 : Int64), .ref bq14, .ref bq6, .ref ao] B0 := fun t kt => st24 t (by
  refine XS.lloadN X14.here hx rfl (hb hby d10_41) rfl ?_
  exact kt)
 have lt26_ao := f15.lt
 have lt26_bq6 := f18.lt
 have lt26_mq6 := f21.lt
 have lt26_bq14 := Ee14.lt
 have lt26_mq14 := Am14.lt
 obtain ⟨_, _, ⟨T26, L26, k26, n26⟩, -, X26, ⟨Lc26, hQ26, l26, y26, z26⟩, ls26⟩ := Jvm.LawKit.callS X14 hx (y := (⟨"java/math/BigInteger", "valueOf", "(J)Ljava/math/BigInteger;"⟩ : MethodName)) hown (mvT hZ (own_w hw 61 rfl)) (mvT hZ (own_w hw 62 rfl)) (mvT hZ (own_w hw 63 rfl)) (mvT hZ (own_w hw 64 rfl)) (by decide) (backOf (W := 3) (rm_vm l Z a0 hw []  T14.heap n0 z22) hZ (own_w hw 64 rfl) (own_w hw 63 rfl) (by decide) (by decide)) (g := (mkF m 42 #[rv ao, .val (.long (9223372036854775807 : Int64)), .second, .val (.long (9223372036854775807 : Int64)), .second, .val (.long (1 : Int64)), .second, .val (.long (4611686018427387903 : Int64)), .second] [.long (9223372036854775807 : Int64), .ref bq14, .ref bq6, .ref ao])) rfl (by rw [hml]; rfl) (argsL := [.long (9223372036854775807 : Int64)]) (rest := [.ref bq14, .ref bq6, .ref ao]) (lenOf own_pd9 rfl) rfl (by show 2 * 0 + _ ≤ _; exact Nat.le_of_eq rfl) (hb hby d10_42) (fun _ _ => ⟨rfl, rfl, (by decide : 4 + 2 ≤ _), (by decide : 16 + 8 ≤ _)⟩)
 dsimp only [Pt.U, Pt.locs, Pt.cells, Pt.slots] at X26 l26 y26 z26 ls26 hQ26
 subst l26 y26 z26
 obtain ⟨bq26, mq26, rfl, Nq26, Kq26, sq26, Bq26⟩ := hQ26
 have N26 := Fr.app N14 Nq26
 have f27 := f15.keep Kq26
 have f28 := f16.keep Kq26 nin0
 have f29 := f17.keep Kq26 nin0
 have f30 := f18.keep Kq26
 have f31 := f19.keep Kq26 nin0
 have f32 := f20.keep Kq26 nin0
 have f33 := f21.keep Kq26 nin0
 have f34 := Ee14.keep Kq26
 have f35 := Fs14.keep Kq26 nin0
 have f36 := Fm14.keep Kq26 nin0
 have f37 := Am14.keep Kq26 nin0
 have z38 := Nat.le_trans z22 Kq26.1
 have k39 := Keep.trans k23 Kq26 all0
 have ne_bq14_bq26 : bq14 ≠ bq26 := Nat.ne_of_lt (Nat.lt_of_lt_of_le lt26_bq14 sq26)
 have sz_bq26 : h0.size ≤ bq26 := Nat.le_trans k23.1 sq26
 have st40 := fun t kt => st25 t (ls26 t kt)
 obtain ⟨Ee26, Fs26, Fm26, Am26⟩ := Bq26
 obtain ⟨cq41, kq41, q41a, q41b, q41c⟩ := isOf hZ rfl f34
 obtain ⟨_, _, ⟨T41, L41, k41, n41⟩, -, X41, ⟨Lc41, hQ41, l41, y41, z41⟩, ls41⟩ := X26.virtualBack hx (y := (⟨"java/math/BigInteger", "multiply", "(Ljava/math/BigInteger;)Ljava/math/BigInteger;"⟩ : MethodName)) (z := (⟨"java/math/BigInteger", "multiply", "(Ljava/math/BigInteger;)Ljava/math/BigInteger;"⟩ : MethodName)) hown (mvT hZ (own_w hw 85 rfl)) (mvT hZ (own_w hw 86 rfl)) (notFace_of_selects (args := #[]) (mvT hZ (own_w hw 88 rfl))) (mvT hZ (own_w hw 88 rfl)) (mvT hZ (own_w hw 87 rfl)) (by decide) (backOf (W := 2) (rm_mu l Z a0 hw [] bq14 bq26 mq14 mq26 T26.heap h0.size k39.1 f34 f35 f36 f37 Ee26 Fs26 Fm26 Am26 ne_bq14_bq26) hZ (own_w hw 89 rfl) (own_w hw 63 rfl) (by decide) (by decide)) q41a q41c (g := (mkF m 45 #[rv ao, .val (.long (9223372036854775807 : Int64)), .second, .val (.long (9223372036854775807 : Int64)), .second, .val (.long (1 : Int64)), .second, .val (.long (4611686018427387903 : Int64)), .second] [.ref bq26, .ref bq14, .ref bq6, .ref ao])) rfl (by rw [hml]; rfl) (Steps.refl _) (argsL := [.ref bq26]) (rest := [.ref bq6, .ref ao]) (lenOf own_pd13 rfl) rfl (by show 2 * 0 + _ ≤ _; exact Nat.le_of_eq rfl) (hb hby d10_45) (fun _ _ => ⟨rfl, rfl, (by decide : 6 + 2 ≤ _), (by decide : 24 + 10 ≤ _)⟩)
 dsimp only [Pt.U, Pt.locs, Pt.cells, Pt.slots] at X41 l41 y41 z41 ls41 hQ41
 subst l41 y41 z41
 obtain ⟨bq41, mq41, rfl, Nq41, Kq41, Bq41, gb41, gm41⟩ := hQ41
 have Nm41 : Fr n0 Lc41 := fun y hy => Nat.le_trans Z0 (Nq41 y hy)
 have N41 := Fr.app N26 Nm41
 have f42 := f27.keep Kq41
 have f43 := f28.keep Kq41 nin0
 have f44 := f29.keep Kq41 nin0
 have f45 := f30.keep Kq41
 have f46 := f31.keep Kq41 nin0
 have f47 := f32.keep Kq41 nin0
 have f48 := f33.keep Kq41 nin0
 have z57 := Nat.le_trans z38 Kq41.1
 have k58 := Keep.trans k39 Kq41 all0
 have st59 : own_K p e below T41 m 48 #[rv ao, .val (.long (9223372036854775807 : Int64)), .second, .val (.long (9223372036854775807 : Int64)), .second, .val (.long (1 : Int64)), .second, .val (.long (4611686018427387903 : Int64)), .second] [.ref bq41, .ref bq6, .ref ao] B0 := fun t kt => st40 t (ls41.trans kt)
 obtain ⟨Ee41, Fs41, Fm41, Am41⟩ := Bq41
 by_cases q0 : ua = 0
 ·have fs := f46
  rw [own_sg_z q0] at fs
  have fa := f48
  rw [own_n_z q0] at fa
  obtain ⟨cq60, kq60, q60a, q60b, q60c⟩ := isOf hZ rfl f45
  obtain ⟨_, _, ⟨T60, L60, k60, n60⟩, -, X60, ⟨Lc60, hQ60, l60, y60, z60⟩, ls60⟩ := X41.virtualBack hx (y := (⟨"java/math/BigInteger", "add", "(Ljava/math/BigInteger;)Ljava/math/BigInteger;"⟩ : MethodName)) (z := (⟨"java/math/BigInteger", "add", "(Ljava/math/BigInteger;)Ljava/math/BigInteger;"⟩ : MethodName)) hown (mvT hZ (own_w hw 116 rfl)) (mvT hZ (own_w hw 117 rfl)) (notFace_of_selects (args := #[]) (mvT hZ (own_w hw 119 rfl))) (mvT hZ (own_w hw 119 rfl)) (mvT hZ (own_w hw 118 rfl)) (by decide) (backOf (W := 1) (rm_adz l Z a0 hw [] bq6 bq41 mq6 mq41 ((own_f ua)) T41.heap h0.size k58.1 f45 fs f47 fa Ee41 Fs41 Fm41 Am41 gb41 gm41) hZ (own_w hw 120 rfl) (own_w hw 63 rfl) (by decide) (by decide)) q60a q60c (g := (mkF m 48 #[rv ao, .val (.long (9223372036854775807 : Int64)), .second, .val (.long (9223372036854775807 : Int64)), .second, .val (.long (1 : Int64)), .second, .val (.long (4611686018427387903 : Int64)), .second] [.ref bq41, .ref bq6, .ref ao])) rfl (by rw [hml]; rfl) (Steps.refl _) (argsL := [.ref bq41]) (rest := [.ref ao]) (lenOf own_pd13 rfl) rfl (by show 2 * 0 + _ ≤ _; exact Nat.le_of_eq rfl) (hb hby d10_48) (fun _ _ => ⟨rfl, rfl, (by decide : 8 + 0 ≤ _), (by decide : 34 + 0 ≤ _)⟩)
  dsimp only [Pt.U, Pt.locs, Pt.cells, Pt.slots] at X60 l60 y60 z60 ls60 hQ60
  subst l60 y60 z60
  obtain ⟨bq60, mq60, rfl, Nq60, Kq60, Bq60, gb60, gm60⟩ := hQ60
  have Nm60 : Fr n0 Lc60 := fun y hy => Nat.le_trans Z0 (Nq60 y hy)
  have N60 := Fr.app N41 Nm60
  have f61 := f42.keep Kq60
  have f62 := f43.keep Kq60 nin0
  have f63 := f44.keep Kq60 nin0
  have z72 := Nat.le_trans z57 Kq60.1
  have k73 := Keep.trans k58 Kq60 all0
  have st74 : own_K p e below T60 m 51 #[rv ao, .val (.long (9223372036854775807 : Int64)), .second, .val (.long (9223372036854775807 : Int64)), .second, .val (.long (1 : Int64)), .second, .val (.long (4611686018427387903 : Int64)), .second] [.ref bq60, .ref ao] B0 := fun t kt => st59 t (ls60.trans kt)
  obtain ⟨Ee60, Fs60, Fm60, Am60⟩ := Bq60
  have ne_ao_bq60 : ao ≠ bq60 := Nat.ne_of_lt (Nat.lt_of_lt_of_le E_ao.lt gb60)
  have ne_ao_mq60 : ao ≠ mq60 := Nat.ne_of_lt (Nat.lt_of_lt_of_le E_ao.lt gm60)
  obtain ⟨T75, h75, X75, e75, W75, ls75⟩ := putF X60 hx hZ hown (host := "") (Or.inl (own_w hw 19 rfl)) Via.refl rfl f63 f61 (Or.inl (own_w hw 20 rfl)) (own_w hw 1 rfl) (ty := (.object "java/math/BigInteger")) (by decide) rfl rfl (g := (mkF m 51 #[rv ao, .val (.long (9223372036854775807 : Int64)), .second, .val (.long (9223372036854775807 : Int64)), .second, .val (.long (1 : Int64)), .second, .val (.long (4611686018427387903 : Int64)), .second] [.ref bq60, .ref ao])) rfl rfl (hb hby d10_51)
  have N75 := Fr.snoc X75 N60 g_ao
  have f77 := f62.other W75 (Or.inr (own_s10_20 hw))
  have f78 := f63.same W75
  have f79 := Ee60.wr W75
  have f80 := Fs60.other W75 (Or.inl (Ne.symm ne_ao_bq60))
  have f81 := Fm60.other W75 (Or.inl (Ne.symm ne_ao_bq60))
  have f82 := Am60.other W75 (Ne.symm ne_ao_mq60)
  have z83 := Nat.le_trans z72 (Keep.of_wr W75).1
  have k84 := k73.wr W75 (Or.inl (List.mem_of_getElem? (i := 0) rfl))
  have st85 := fun t kt => st74 t (ls75 t kt)
  obtain ⟨fs, hr, hrun, hended, hW, hsame⟩ := X75.leave (v := none) (fun _ => rfl)
  subst hB0
  refine ⟨_, _, st85 _ ?_, hrun, hended, _, _, rfl, ?_, ⟨_, rfl⟩, hW, hsame.mono (by decide) (by decide)⟩
  ·exact X75.returnOut hx Bd.returns (hb hby d10_54) hr
  ·show Q_rm_aJJ Z ao ua h0 n0 _ T75.heap _
   rw [e75]
   exact ⟨rfl, N75, k84, f77, _, _, f78, own_BI.cast ⟨f79, f80, f81, f82⟩ rfl rfl (own_sum_z q0), gb60, gm60⟩
 ·by_cases q1 : 0 < ua
  ·by_cases q2 : own_hi ua = 0
   ·have fs := f46
    rw [own_sg_p q0 q1] at fs
    have fa := f48
    rw [own_n_one q0 q2] at fa
    obtain ⟨cq86, kq86, q86a, q86b, q86c⟩ := isOf hZ rfl f45
    obtain ⟨_, _, ⟨T86, L86, k86, n86⟩, -, X86, ⟨Lc86, hQ86, l86, y86, z86⟩, ls86⟩ := X41.virtualBack hx (y := (⟨"java/math/BigInteger", "add", "(Ljava/math/BigInteger;)Ljava/math/BigInteger;"⟩ : MethodName)) (z := (⟨"java/math/BigInteger", "add", "(Ljava/math/BigInteger;)Ljava/math/BigInteger;"⟩ : MethodName)) hown (mvT hZ (own_w hw 116 rfl)) (mvT hZ (own_w hw 117 rfl)) (notFace_of_selects (args := #[]) (mvT hZ (own_w hw 119 rfl))) (mvT hZ (own_w hw 119 rfl)) (mvT hZ (own_w hw 118 rfl)) (by decide) (backOf (W := 1) (rm_adp1 l Z a0 hw [] bq6 bq41 mq6 mq41 ((own_f ua)) T41.heap h0.size k58.1 f45 fs f47 fa Ee41 Fs41 Fm41 Am41) hZ (own_w hw 120 rfl) (own_w hw 63 rfl) (by decide) (by decide)) q86a q86c (g := (mkF m 48 #[rv ao, .val (.long (9223372036854775807 : Int64)), .second, .val (.long (9223372036854775807 : Int64)), .second, .val (.long (1 : Int64)), .second, .val (.long (4611686018427387903 : Int64)), .second] [.ref bq41, .ref bq6, .ref ao])) rfl (by rw [hml]; rfl) (Steps.refl _) (argsL := [.ref bq41]) (rest := [.ref ao]) (lenOf own_pd13 rfl) rfl (by show 2 * 0 + _ ≤ _; exact Nat.le_of_eq rfl) (hb hby d10_48) (fun _ _ => ⟨rfl, rfl, (by decide : 8 + 2 ≤ _), (by decide : 34 + 10 ≤ _)⟩)
    dsimp only [Pt.U, Pt.locs, Pt.cells, Pt.slots] at X86 l86 y86 z86 ls86 hQ86
    subst l86 y86 z86
    obtain ⟨bq86, mq86, rfl, Nq86, Kq86, Bq86, gb86, gm86⟩ := hQ86
    have Nm86 : Fr n0 Lc86 := fun y hy => Nat.le_trans Z0 (Nq86 y hy)
    have N86 := Fr.app N41 Nm86
    have f87 := f42.keep Kq86
    have f88 := f43.keep Kq86 nin0
    have f89 := f44.keep Kq86 nin0
    have z98 := Nat.le_trans z57 Kq86.1
    have k99 := Keep.trans k58 Kq86 all0
    have st100 : own_K p e below T86 m 51 #[rv ao, .val (.long (9223372036854775807 : Int64)), .second, .val (.long (9223372036854775807 : Int64)), .second, .val (.long (1 : Int64)), .second, .val (.long (4611686018427387903 : Int64)), .second] [.ref bq86, .ref ao] B0 := fun t kt => st59 t (ls86.trans kt)
    obtain ⟨Ee86, Fs86, Fm86, Am86⟩ := Bq86
    have ne_ao_bq86 : ao ≠ bq86 := Nat.ne_of_lt (Nat.lt_of_lt_of_le E_ao.lt gb86)
    have ne_ao_mq86 : ao ≠ mq86 := Nat.ne_of_lt (Nat.lt_of_lt_of_le E_ao.lt gm86)
    obtain ⟨T101, h101, X101, e101, W101, ls101⟩ := putF X86 hx hZ hown (host := "") (Or.inl (own_w hw 19 rfl)) Via.refl rfl f89 f87 (Or.inl (own_w hw 20 rfl)) (own_w hw 1 rfl) (ty := (.object "java/math/BigInteger")) (by decide) rfl rfl (g := (mkF m 51 #[rv ao, .val (.long (9223372036854775807 : Int64)), .second, .val (.long (9223372036854775807 : Int64)), .second, .val (.long (1 : Int64)), .second, .val (.long (4611686018427387903 : Int64)), .second] [.ref bq86, .ref ao])) rfl rfl (hb hby d10_51)
    have N101 := Fr.snoc X101 N86 g_ao
    have f103 := f88.other W101 (Or.inr (own_s10_20 hw))
    have f104 := f89.same W101
    have f105 := Ee86.wr W101
    have f106 := Fs86.other W101 (Or.inl (Ne.symm ne_ao_bq86))
    have f107 := Fm86.other W101 (Or.inl (Ne.symm ne_ao_bq86))
    have f108 := Am86.other W101 (Ne.symm ne_ao_mq86)
    have z109 := Nat.le_trans z98 (Keep.of_wr W101).1
    have k110 := k99.wr W101 (Or.inl (List.mem_of_getElem? (i := 0) rfl))
    have st111 := fun t kt => st100 t (ls101 t kt)
    obtain ⟨fs, hr, hrun, hended, hW, hsame⟩ := X101.leave (v := none) (fun _ => rfl)
    subst hB0
    refine ⟨_, _, st111 _ ?_, hrun, hended, _, _, rfl, ?_, ⟨_, rfl⟩, hW, hsame.mono (by decide) (by decide)⟩
    ·exact X101.returnOut hx Bd.returns (hb hby d10_54) hr
    ·show Q_rm_aJJ Z ao ua h0 n0 _ T101.heap _
     rw [e101]
     exact ⟨rfl, N101, k110, f103, _, _, f104, own_BI.cast ⟨f105, f106, f107, f108⟩ rfl rfl (own_sum_p1 q0 q1 q2), gb86, gm86⟩
   ·have fs := f46
    rw [own_sg_p q0 q1] at fs
    have fa := f48
    rw [own_n_two q0 q2] at fa
    obtain ⟨cq112, kq112, q112a, q112b, q112c⟩ := isOf hZ rfl f45
    obtain ⟨_, _, ⟨T112, L112, k112, n112⟩, -, X112, ⟨Lc112, hQ112, l112, y112, z112⟩, ls112⟩ := X41.virtualBack hx (y := (⟨"java/math/BigInteger", "add", "(Ljava/math/BigInteger;)Ljava/math/BigInteger;"⟩ : MethodName)) (z := (⟨"java/math/BigInteger", "add", "(Ljava/math/BigInteger;)Ljava/math/BigInteger;"⟩ : MethodName)) hown (mvT hZ (own_w hw 116 rfl)) (mvT hZ (own_w hw 117 rfl)) (notFace_of_selects (args := #[]) (mvT hZ (own_w hw 119 rfl))) (mvT hZ (own_w hw 119 rfl)) (mvT hZ (own_w hw 118 rfl)) (by decide) (backOf (W := 1) (rm_adp2 l Z a0 hw [] bq6 bq41 mq6 mq41 ((own_f ua)) T41.heap h0.size k58.1 f45 fs f47 fa Ee41 Fs41 Fm41 Am41) hZ (own_w hw 120 rfl) (own_w hw 63 rfl) (by decide) (by decide)) q112a q112c (g := (mkF m 48 #[rv ao, .val (.long (9223372036854775807 : Int64)), .second, .val (.long (9223372036854775807 : Int64)), .second, .val (.long (1 : Int64)), .second, .val (.long (4611686018427387903 : Int64)), .second] [.ref bq41, .ref bq6, .ref ao])) rfl (by rw [hml]; rfl) (Steps.refl _) (argsL := [.ref bq41]) (rest := [.ref ao]) (lenOf own_pd13 rfl) rfl (by show 2 * 0 + _ ≤ _; exact Nat.le_of_eq rfl) (hb hby d10_48) (fun _ _ => ⟨rfl, rfl, (by decide : 8 + 2 ≤ _), (by decide : 34 + 10 ≤ _)⟩)
    dsimp only [Pt.U, Pt.locs, Pt.cells, Pt.slots] at X112 l112 y112 z112 ls112 hQ112
    subst l112 y112 z112
    obtain ⟨bq112, mq112, rfl, Nq112, Kq112, Bq112, gb112, gm112⟩ := hQ112
    have Nm112 : Fr n0 Lc112 := fun y hy => Nat.le_trans Z0 (Nq112 y hy)
    have N112 := Fr.app N41 Nm112
    have f113 := f42.keep Kq112
    have f114 := f43.keep Kq112 nin0
    have f115 := f44.keep Kq112 nin0
    have z124 := Nat.le_trans z57 Kq112.1
    have k125 := Keep.trans k58 Kq112 all0
    have st126 : own_K p e below T112 m 51 #[rv ao, .val (.long (9223372036854775807 : Int64)), .second, .val (.long (9223372036854775807 : Int64)), .second, .val (.long (1 : Int64)), .second, .val (.long (4611686018427387903 : Int64)), .second] [.ref bq112, .ref ao] B0 := fun t kt => st59 t (ls112.trans kt)
    obtain ⟨Ee112, Fs112, Fm112, Am112⟩ := Bq112
    have ne_ao_bq112 : ao ≠ bq112 := Nat.ne_of_lt (Nat.lt_of_lt_of_le E_ao.lt gb112)
    have ne_ao_mq112 : ao ≠ mq112 := Nat.ne_of_lt (Nat.lt_of_lt_of_le E_ao.lt gm112)
    obtain ⟨T127, h127, X127, e127, W127, ls127⟩ := putF X112 hx hZ hown (host := "") (Or.inl (own_w hw 19 rfl)) Via.refl rfl f115 f113 (Or.inl (own_w hw 20 rfl)) (own_w hw 1 rfl) (ty := (.object "java/math/BigInteger")) (by decide) rfl rfl (g := (mkF m 51 #[rv ao, .val (.long (9223372036854775807 : Int64)), .second, .val (.long (9223372036854775807 : Int64)), .second, .val (.long (1 : Int64)), .second, .val (.long (4611686018427387903 : Int64)), .second] [.ref bq112, .ref ao])) rfl rfl (hb hby d10_51)
    have N127 := Fr.snoc X127 N112 g_ao
    have f129 := f114.other W127 (Or.inr (own_s10_20 hw))
    have f130 := f115.same W127
    have f131 := Ee112.wr W127
    have f132 := Fs112.other W127 (Or.inl (Ne.symm ne_ao_bq112))
    have f133 := Fm112.other W127 (Or.inl (Ne.symm ne_ao_bq112))
    have f134 := Am112.other W127 (Ne.symm ne_ao_mq112)
    have z135 := Nat.le_trans z124 (Keep.of_wr W127).1
    have k136 := k125.wr W127 (Or.inl (List.mem_of_getElem? (i := 0) rfl))
    have st137 := fun t kt => st126 t (ls127 t kt)
    obtain ⟨fs, hr, hrun, hended, hW, hsame⟩ := X127.leave (v := none) (fun _ => rfl)
    subst hB0
    refine ⟨_, _, st137 _ ?_, hrun, hended, _, _, rfl, ?_, ⟨_, rfl⟩, hW, hsame.mono (by decide) (by decide)⟩
    ·exact X127.returnOut hx Bd.returns (hb hby d10_54) hr
    ·show Q_rm_aJJ Z ao ua h0 n0 _ T127.heap _
     rw [e127]
     exact ⟨rfl, N127, k136, f129, _, _, f130, own_BI.cast ⟨f131, f132, f133, f134⟩ rfl rfl (own_sum_p2 q0 q1 q2), gb112, gm112⟩
  ·by_cases q2 : own_hi ua = 0
   ·have fs := f46
    rw [own_sg_m q0 q1] at fs
    have fa := f48
    rw [own_n_one q0 q2] at fa
    obtain ⟨cq138, kq138, q138a, q138b, q138c⟩ := isOf hZ rfl f45
    obtain ⟨_, _, ⟨T138, L138, k138, n138⟩, -, X138, ⟨Lc138, hQ138, l138, y138, z138⟩, ls138⟩ := X41.virtualBack hx (y := (⟨"java/math/BigInteger", "add", "(Ljava/math/BigInteger;)Ljava/math/BigInteger;"⟩ : MethodName)) (z := (⟨"java/math/BigInteger", "add", "(Ljava/math/BigInteger;)Ljava/math/BigInteger;"⟩ : MethodName)) hown (mvT hZ (own_w hw 116 rfl)) (mvT hZ (own_w hw 117 rfl)) (notFace_of_selects (args := #[]) (mvT hZ (own_w hw 119 rfl))) (mvT hZ (own_w hw 119 rfl)) (mvT hZ (own_w hw 118 rfl)) (by decide) (backOf (W := 1) (rm_adm1 l Z a0 hw [] bq6 bq41 mq6 mq41 ((own_f ua)) T41.heap h0.size k58.1 f45 fs f47 fa Ee41 Fs41 Fm41 Am41) hZ (own_w hw 120 rfl) (own_w hw 63 rfl) (by decide) (by decide)) q138a q138c (g := (mkF m 48 #[rv ao, .val (.long (9223372036854775807 : Int64)), .second, .val (.long (9223372036854775807 : Int64)), .second, .val (.long (1 : Int64)), .second, .val (.long (4611686018427387903 : Int64)), .second] [.ref bq41, .ref bq6, .ref ao])) rfl (by rw [hml]; rfl) (Steps.refl _) (argsL := [.ref bq41]) (rest := [.ref ao]) (lenOf own_pd13 rfl) rfl (by show 2 * 0 + _ ≤ _; exact Nat.le_of_eq rfl) (hb hby d10_48) (fun _ _ => ⟨rfl, rfl, (by decide : 8 + 2 ≤ _), (by decide : 34 + 10 ≤ _)⟩)
    dsimp only [Pt.U, Pt.locs, Pt.cells, Pt.slots] at X138 l138 y138 z138 ls138 hQ138
    subst l138 y138 z138
    obtain ⟨bq138, mq138, rfl, Nq138, Kq138, Bq138, gb138, gm138⟩ := hQ138
    have Nm138 : Fr n0 Lc138 := fun y hy => Nat.le_trans Z0 (Nq138 y hy)
    have N138 := Fr.app N41 Nm138
    have f139 := f42.keep Kq138
    have f140 := f43.keep Kq138 nin0
    have f141 := f44.keep Kq138 nin0
    have z150 := Nat.le_trans z57 Kq138.1
    have k151 := Keep.trans k58 Kq138 all0
    have st152 : own_K p e below T138 m 51 #[rv ao, .val (.long (9223372036854775807 : Int64)), .second, .val (.long (9223372036854775807 : Int64)), .second, .val (.long (1 : Int64)), .second, .val (.long (4611686018427387903 : Int64)), .second] [.ref bq138, .ref ao] B0 := fun t kt => st59 t (ls138.trans kt)
    obtain ⟨Ee138, Fs138, Fm138, Am138⟩ := Bq138
    have ne_ao_bq138 : ao ≠ bq138 := Nat.ne_of_lt (Nat.lt_of_lt_of_le E_ao.lt gb138)
    have ne_ao_mq138 : ao ≠ mq138 := Nat.ne_of_lt (Nat.lt_of_lt_of_le E_ao.lt gm138)
    obtain ⟨T153, h153, X153, e153, W153, ls153⟩ := putF X138 hx hZ hown (host := "") (Or.inl (own_w hw 19 rfl)) Via.refl rfl f141 f139 (Or.inl (own_w hw 20 rfl)) (own_w hw 1 rfl) (ty := (.object "java/math/BigInteger")) (by decide) rfl rfl (g := (mkF m 51 #[rv ao, .val (.long (9223372036854775807 : Int64)), .second, .val (.long (9223372036854775807 : Int64)), .second, .val (.long (1 : Int64)), .second, .val (.long (4611686018427387903 : Int64)), .second] [.ref bq138, .ref ao])) rfl rfl (hb hby d10_51)
    have N153 := Fr.snoc X153 N138 g_ao
    have f155 := f140.other W153 (Or.inr (own_s10_20 hw))
    have f156 := f141.same W153
    have f157 := Ee138.wr W153
    have f158 := Fs138.other W153 (Or.inl (Ne.symm ne_ao_bq138))
    have f159 := Fm138.other W153 (Or.inl (Ne.symm ne_ao_bq138))
    have f160 := Am138.other W153 (Ne.symm ne_ao_mq138)
    have z161 := Nat.le_trans z150 (Keep.of_wr W153).1
    have k162 := k151.wr W153 (Or.inl (List.mem_of_getElem? (i := 0) rfl))
    have st163 := fun t kt => st152 t (ls153 t kt)
    obtain ⟨fs, hr, hrun, hended, hW, hsame⟩ := X153.leave (v := none) (fun _ => rfl)
    subst hB0
    refine ⟨_, _, st163 _ ?_, hrun, hended, _, _, rfl, ?_, ⟨_, rfl⟩, hW, hsame.mono (by decide) (by decide)⟩
    ·exact X153.returnOut hx Bd.returns (hb hby d10_54) hr
    ·show Q_rm_aJJ Z ao ua h0 n0 _ T153.heap _
     rw [e153]
     exact ⟨rfl, N153, k162, f155, _, _, f156, own_BI.cast ⟨f157, f158, f159, f160⟩ rfl rfl (own_sum_m1 q0 q1 q2), gb138, gm138⟩
   ·have fs := f46
    rw [own_sg_m q0 q1] at fs
    have fa := f48
    rw [own_n_two q0 q2] at fa
    obtain ⟨cq164, kq164, q164a, q164b, q164c⟩ := isOf hZ rfl f45
    obtain ⟨_, _, ⟨T164, L164, k164, n164⟩, -, X164, ⟨Lc164, hQ164, l164, y164, z164⟩, ls164⟩ := X41.virtualBack hx (y := (⟨"java/math/BigInteger", "add", "(Ljava/math/BigInteger;)Ljava/math/BigInteger;"⟩ : MethodName)) (z := (⟨"java/math/BigInteger", "add", "(Ljava/math/BigInteger;)Ljava/math/BigInteger;"⟩ : MethodName)) hown (mvT hZ (own_w hw 116 rfl)) (mvT hZ (own_w hw 117 rfl)) (notFace_of_selects (args := #[]) (mvT hZ (own_w hw 119 rfl))) (mvT hZ (own_w hw 119 rfl)) (mvT hZ (own_w hw 118 rfl)) (by decide) (backOf (W := 1) (rm_adm2 l Z a0 hw [] bq6 bq41 mq6 mq41 ((own_f ua)) T41.heap h0.size k58.1 f45 fs f47 fa Ee41 Fs41 Fm41 Am41) hZ (own_w hw 120 rfl) (own_w hw 63 rfl) (by decide) (by decide)) q164a q164c (g := (mkF m 48 #[rv ao, .val (.long (9223372036854775807 : Int64)), .second, .val (.long (9223372036854775807 : Int64)), .second, .val (.long (1 : Int64)), .second, .val (.long (4611686018427387903 : Int64)), .second] [.ref bq41, .ref bq6, .ref ao])) rfl (by rw [hml]; rfl) (Steps.refl _) (argsL := [.ref bq41]) (rest := [.ref ao]) (lenOf own_pd13 rfl) rfl (by show 2 * 0 + _ ≤ _; exact Nat.le_of_eq rfl) (hb hby d10_48) (fun _ _ => ⟨rfl, rfl, (by decide : 8 + 2 ≤ _), (by decide : 34 + 10 ≤ _)⟩)
    dsimp only [Pt.U, Pt.locs, Pt.cells, Pt.slots] at X164 l164 y164 z164 ls164 hQ164
    subst l164 y164 z164
    obtain ⟨bq164, mq164, rfl, Nq164, Kq164, Bq164, gb164, gm164⟩ := hQ164
    have Nm164 : Fr n0 Lc164 := fun y hy => Nat.le_trans Z0 (Nq164 y hy)
    have N164 := Fr.app N41 Nm164
    have f165 := f42.keep Kq164
    have f166 := f43.keep Kq164 nin0
    have f167 := f44.keep Kq164 nin0
    have z176 := Nat.le_trans z57 Kq164.1
    have k177 := Keep.trans k58 Kq164 all0
    have st178 : own_K p e below T164 m 51 #[rv ao, .val (.long (9223372036854775807 : Int64)), .second, .val (.long (9223372036854775807 : Int64)), .second, .val (.long (1 : Int64)), .second, .val (.long (4611686018427387903 : Int64)), .second] [.ref bq164, .ref ao] B0 := fun t kt => st59 t (ls164.trans kt)
    obtain ⟨Ee164, Fs164, Fm164, Am164⟩ := Bq164
    have ne_ao_bq164 : ao ≠ bq164 := Nat.ne_of_lt (Nat.lt_of_lt_of_le E_ao.lt gb164)
    have ne_ao_mq164 : ao ≠ mq164 := Nat.ne_of_lt (Nat.lt_of_lt_of_le E_ao.lt gm164)
    obtain ⟨T179, h179, X179, e179, W179, ls179⟩ := putF X164 hx hZ hown (host := "") (Or.inl (own_w hw 19 rfl)) Via.refl rfl f167 f165 (Or.inl (own_w hw 20 rfl)) (own_w hw 1 rfl) (ty := (.object "java/math/BigInteger")) (by decide) rfl rfl (g := (mkF m 51 #[rv ao, .val (.long (9223372036854775807 : Int64)), .second, .val (.long (9223372036854775807 : Int64)), .second, .val (.long (1 : Int64)), .second, .val (.long (4611686018427387903 : Int64)), .second] [.ref bq164, .ref ao])) rfl rfl (hb hby d10_51)
    have N179 := Fr.snoc X179 N164 g_ao
    have f181 := f166.other W179 (Or.inr (own_s10_20 hw))
    have f182 := f167.same W179
    have f183 := Ee164.wr W179
    have f184 := Fs164.other W179 (Or.inl (Ne.symm ne_ao_bq164))
    have f185 := Fm164.other W179 (Or.inl (Ne.symm ne_ao_bq164))
    have f186 := Am164.other W179 (Ne.symm ne_ao_mq164)
    have z187 := Nat.le_trans z176 (Keep.of_wr W179).1
    have k188 := k177.wr W179 (Or.inl (List.mem_of_getElem? (i := 0) rfl))
    have st189 := fun t kt => st178 t (ls179 t kt)
    obtain ⟨fs, hr, hrun, hended, hW, hsame⟩ := X179.leave (v := none) (fun _ => rfl)
    subst hB0
    refine ⟨_, _, st189 _ ?_, hrun, hended, _, _, rfl, ?_, ⟨_, rfl⟩, hW, hsame.mono (by decide) (by decide)⟩
    ·exact X179.returnOut hx Bd.returns (hb hby d10_54) hr
    ·show Q_rm_aJJ Z ao ua h0 n0 _ T179.heap _
     rw [e179]
     exact ⟨rfl, N179, k188, f181, _, _, f182, own_BI.cast ⟨f183, f184, f185, f186⟩ rfl rfl (own_sum_m2 q0 q1 q2), gb164, gm164⟩
def Q_rm_law (Z : State) (ua : Int64) (ud : Int64) (uf : Int32) (h0 : Heap) (n0 : Nat) (v : Option Value) (h : Heap) (L : List Loc) : Prop := v = some (.int 1) ∧ Fr n0 L
set_option maxRecDepth 65536 in
set_option maxHeartbeats 40000000 in
theorem rm_law (l : Launch) (Z : State) (a0 : Array Value) (hw : ∀ d ∈ tables_1, d.before a0 Z = true) (ws : List Jvm.Cond) (ua : Int64) (ud : Int64) (uf : Int32) (h0 : Heap) (n0 : Nat) (Z0 : n0 ≤ h0.size) (Cs : own_Cs Z h0) :
  MetFree l x (head1 (Jvm.Cond.code x code maxLocals ret :: ws) room_1) (fun a U => a = #[.long ua, .long ud, .int uf] ∧ Z.Warmed39 U.vm ∧ U.heap = h0) (fun _ _ _ _ _ => True) (fun _ U o U' => ∃ v L, o = .returned v ∧ Q_rm_law Z ua ud uf h0 n0 v U'.heap L ∧ FrameEnd U o U' L room_1.cells room_1.slots) := by
 refine MetFree.of_bodySF (plainFor_of_name own_pn5) hisR ?_
 intro p e s m args below meth c s₁ Bd hml0 hP hK
 obtain ⟨rfl, hZ, hh⟩ := hP
 have hx := Bd.exec
 have hby := Bd.bytes
 have hml : c.maxLocals = 10 := hml0
 have hown : s.vm.findClass "com/example/pactum/pactum/admission/ExactSumSetPinLaw" = some m.cls := findClass_of_methodNamed Bd.named
 have hnm := (name_of_methodNamed Bd.named Bd.method).1
 have X0 : Stand p l e room_1 s m #[.long ua, .long ud, .int uf] below meth c s₁ [] 0 0 := Stand.of_body Bd
 have e0 : s₁.heap = h0 := by rw [← hh, Bd.state]; rfl
 have N0 := Fr.nil n0
 obtain ⟨B0, hB0⟩ : ∃ B, B = (s₁.setTop (entryFrame m #[.long ua, .long ud, .int uf] maxLocals)) := ⟨_, rfl⟩
 have st0 : own_K p e below s₁ m 0 #[.val (.long ua), .second, .val (.long ud), .second, iv uf, .unset, .unset, .unset, .unset, .unset] [] B0 := fun t kk0 => hB0 ▸ castTop (own_ef0_JJI m ua ud uf) kk0
 have k0 : Keep h0 h0 [] := Keep.refl _ _
 have st1 : own_K p e below s₁ m 4 #[.val (.long ua), .second, .val (.long ud), .second, iv uf, .unset, .unset, .unset, .unset, .unset] [(.int (uf &&& (1 : Int32)))] B0 := fun t kt => st0 t (by
  refine XS.iload X0.here hx rfl (hb hby at_0) rfl ?_
  refine XS.iconst X0.here hx rfl (hb hby at_2) ?_
  refine XS.iand X0.here hx rfl (hb hby at_3) rfl ?_
  exact kt)
 by_cases q1 : (uf &&& (1 : Int32)) = (0 : Int32)
 ·have st2 : own_K p e below s₁ m 18 #[.val (.long ua), .second, .val (.long ud), .second, iv uf, iv 0, .unset, .unset, .unset, .unset] [(.int (uf &&& (2 : Int32)))] B0 := fun t kt => st1 t (by
   refine XS.ifYes X0.here hx rfl (pc0 := 4) (pc' := 11) rfl (hb hby at_4) rfl ((if0 _ _).trans (teq q1).1) (by decide) (by decide) ?_
   refine XS.iconst X0.here hx rfl (hb hby at_11) ?_
   refine XS.istore X0.here hx rfl (hb hby at_12) rfl (l' := #[.val (.long ua), .second, .val (.long ud), .second, iv uf, iv 0, .unset, .unset, .unset, .unset]) rfl ?_
   refine XS.iload X0.here hx rfl (hb hby at_14) rfl ?_
   refine XS.iconst X0.here hx rfl (hb hby at_16) ?_
   refine XS.iand X0.here hx rfl (hb hby at_17) rfl ?_
   exact kt)
  obtain ⟨x6, hj3, st3⟩ : ∃ (x6 : Int32), (True) ∧ own_K p e below s₁ m 26 #[.val (.long ua), .second, .val (.long ud), .second, iv uf, iv 0, .unset, .unset, .unset, .unset] [.int x6] B0 := by
   by_cases q2 : (uf &&& (2 : Int32)) = (0 : Int32)
   ·have st4 : own_K p e below s₁ m 26 #[.val (.long ua), .second, .val (.long ud), .second, iv uf, iv 0, .unset, .unset, .unset, .unset] [.int 0] B0 := fun t kt => st2 t (by
     refine XS.ifYes X0.here hx rfl (pc0 := 18) (pc' := 25) rfl (hb hby at_18) rfl ((if0 _ _).trans (teq q2).1) (by decide) (by decide) ?_
     refine XS.iconst X0.here hx rfl (hb hby at_25) ?_
     exact kt)
    exact ⟨(0 : Int32), trivial, st4⟩
   ·have st5 : own_K p e below s₁ m 26 #[.val (.long ua), .second, .val (.long ud), .second, iv uf, iv 0, .unset, .unset, .unset, .unset] [.int 1] B0 := fun t kt => st2 t (by
     refine XS.ifNo X0.here hx rfl (hb hby at_18) rfl ((if0 _ _).trans (feq q2).1) ?_
     refine XS.iconst X0.here hx rfl (hb hby at_21) ?_
     refine XS.goto X0.here hx rfl (pc0 := 22) (pc' := 26) rfl (hb hby at_22) (by decide) (by decide) ?_
     exact kt)
    exact ⟨(1 : Int32), trivial, st5⟩
  have st6 : own_K p e below s₁ m 28 #[.val (.long ua), .second, .val (.long ud), .second, iv uf, iv 0, iv x6, .unset, .unset, .unset] [] B0 := fun t kt => st3 t (by
   refine XS.istore X0.here hx rfl (hb hby at_26) rfl (l' := #[.val (.long ua), .second, .val (.long ud), .second, iv uf, iv 0, iv x6, .unset, .unset, .unset]) rfl ?_
   exact kt)
  obtain ⟨T7, h7, X7, e7, E7, A7, D7, -, ls7⟩ := newO X0 hx hZ hown (own_w hw 0 rfl) (own_w hw 1 rfl) (own_w hw 2 rfl) e0 (g := (mkF m 28 #[.val (.long ua), .second, .val (.long ud), .second, iv uf, iv 0, iv x6, .unset, .unset, .unset] [])) rfl (hb hby at_28) (by decide) (by decide)
  obtain ⟨xs, g7⟩ : ∃ z, z = h0.size := ⟨_, rfl⟩
  rw [← g7] at A7 D7 ls7
  have g_xs : n0 ≤ xs := Nat.le_trans Z0 (Nat.le_of_eq g7.symm)
  have sz_xs : h0.size ≤ xs := Nat.le_trans k0.1 (Nat.le_of_eq g7.symm)
  have z8 := Nat.le_trans Z0 E7.1
  have k9 := k0.ext E7
  have f10 : Fld Z h7 xs "com/example/pactum/pactum/admission/ExactSum" "value" "J" (.long (0 : Int64)) := D7 (Or.inl (own_w hw 10 rfl)) (ty := .long) (by decide)
  have f11 : Fld Z h7 xs "com/example/pactum/pactum/admission/ExactSum" "beyond" "Ljava/math/BigInteger;" .null := D7 (Or.inl (own_w hw 20 rfl)) (ty := (.object "java/math/BigInteger")) (by decide)
  have st12 := fun t kt => st6 t (ls7 t kt)
  have st13 : own_K p e below T7 m 33 #[.val (.long ua), .second, .val (.long ud), .second, iv uf, iv 0, iv x6, .unset, .unset, .unset] [.long ua, .ref xs, .ref xs] B0 := fun t kt => st12 t (by
   refine XS.dup X7.here hx rfl (hb hby at_31) rfl rfl ?_
   refine XS.lloadN X7.here hx rfl (hb hby at_32) rfl ?_
   exact kt)
  obtain ⟨_, _, ⟨T14, L14, k14, n14⟩, -, X14, ⟨Lc14, hQ14, l14, y14, z14⟩, ls14⟩ := X7.specialBack hx (y := (⟨"com/example/pactum/pactum/admission/ExactSum", "<init>", "(J)V"⟩ : MethodName)) rfl hown (mvT hZ (own_w hw 3 rfl)) (mvT hZ (own_w hw 4 rfl)) (mvT hZ (own_w hw 5 rfl)) (by decide) (backOf (W := 1) (rm_xj l Z a0 hw [] xs ua h7 n0 z8 A7 g_xs f10 f11) hZ (own_w hw 5 rfl) (own_w hw 2 rfl) (by decide) (by decide)) (g := (mkF m 33 #[.val (.long ua), .second, .val (.long ud), .second, iv uf, iv 0, iv x6, .unset, .unset, .unset] [.long ua, .ref xs, .ref xs])) rfl (by rw [hml]; rfl) (Steps.refl _) (a := xs) (argsL := [.long ua]) (rest := [.ref xs]) (lenOf own_pd8 rfl) rfl (by show 2 * 0 + _ ≤ _; exact Nat.le_of_eq rfl) (hb hby at_33) (fun _ _ => ⟨rfl, e7, (by decide : 1 + 0 ≤ _), (by decide : 2 + 0 ≤ _)⟩)
  dsimp only [Pt.U, Pt.locs, Pt.cells, Pt.slots] at X14 l14 y14 z14 ls14 hQ14
  subst l14 y14 z14
  obtain ⟨rfl, Nq14, Kq14, Fq14_value, Fq14_beyond⟩ := hQ14
  have N14 := Fr.app N0 Nq14
  have f15 := A7.keep Kq14
  have z18 := Nat.le_trans z8 Kq14.1
  have k19 := Keep.trans k9 Kq14 (allS (P := fun x => x ∈ [] ∨ h0.size ≤ x) (Or.inr sz_xs) all0)
  have st20 : own_K p e below T14 m 36 #[.val (.long ua), .second, .val (.long ud), .second, iv uf, iv 0, iv x6, .unset, .unset, .unset] [.ref xs] B0 := fun t kt => st13 t (ls14.trans kt)
  have st21 : own_K p e below T14 m 38 #[.val (.long ua), .second, .val (.long ud), .second, iv uf, iv 0, iv x6, rv xs, .unset, .unset] [] B0 := fun t kt => st20 t (by
   refine XS.astore X14.here hx rfl (hb hby at_36) rfl rfl (l' := #[.val (.long ua), .second, .val (.long ud), .second, iv uf, iv 0, iv x6, rv xs, .unset, .unset]) rfl ?_
   exact kt)
  obtain ⟨T22, h22, X22, e22, E22, A22, D22, -, ls22⟩ := newO X14 hx hZ hown (own_w hw 0 rfl) (own_w hw 1 rfl) (own_w hw 2 rfl) rfl (g := (mkF m 38 #[.val (.long ua), .second, .val (.long ud), .second, iv uf, iv 0, iv x6, rv xs, .unset, .unset] [])) rfl (hb hby at_38) (by decide) (by decide)
  obtain ⟨xr, g22⟩ : ∃ z, z = T14.heap.size := ⟨_, rfl⟩
  rw [← g22] at A22 D22 ls22
  have ne_xs_xr : xs ≠ xr := Nat.ne_of_lt (Nat.lt_of_lt_of_le f15.lt (Nat.le_of_eq g22.symm))
  have g_xr : n0 ≤ xr := Nat.le_trans z18 (Nat.le_of_eq g22.symm)
  have sz_xr : h0.size ≤ xr := Nat.le_trans k19.1 (Nat.le_of_eq g22.symm)
  have f23 := f15.ext E22
  have f24 := Fq14_value.ext E22
  have f25 := Fq14_beyond.ext E22
  have z26 := Nat.le_trans z18 E22.1
  have k27 := k19.ext E22
  have f28 : Fld Z h22 xr "com/example/pactum/pactum/admission/ExactSum" "value" "J" (.long (0 : Int64)) := D22 (Or.inl (own_w hw 10 rfl)) (ty := .long) (by decide)
  have f29 : Fld Z h22 xr "com/example/pactum/pactum/admission/ExactSum" "beyond" "Ljava/math/BigInteger;" .null := D22 (Or.inl (own_w hw 20 rfl)) (ty := (.object "java/math/BigInteger")) (by decide)
  have st30 := fun t kt => st21 t (ls22 t kt)
  have st31 : own_K p e below T22 m 43 #[.val (.long ua), .second, .val (.long ud), .second, iv uf, iv 0, iv x6, rv xs, .unset, .unset] [.long ua, .ref xr, .ref xr] B0 := fun t kt => st30 t (by
   refine XS.dup X22.here hx rfl (hb hby at_41) rfl rfl ?_
   refine XS.lloadN X22.here hx rfl (hb hby at_42) rfl ?_
   exact kt)
  obtain ⟨_, _, ⟨T32, L32, k32, n32⟩, -, X32, ⟨Lc32, hQ32, l32, y32, z32⟩, ls32⟩ := X22.specialBack hx (y := (⟨"com/example/pactum/pactum/admission/ExactSum", "<init>", "(J)V"⟩ : MethodName)) rfl hown (mvT hZ (own_w hw 3 rfl)) (mvT hZ (own_w hw 4 rfl)) (mvT hZ (own_w hw 5 rfl)) (by decide) (backOf (W := 1) (rm_xj l Z a0 hw [] xr ua h22 n0 z26 A22 g_xr f28 f29) hZ (own_w hw 5 rfl) (own_w hw 2 rfl) (by decide) (by decide)) (g := (mkF m 43 #[.val (.long ua), .second, .val (.long ud), .second, iv uf, iv 0, iv x6, rv xs, .unset, .unset] [.long ua, .ref xr, .ref xr])) rfl (by rw [hml]; rfl) (Steps.refl _) (a := xr) (argsL := [.long ua]) (rest := [.ref xr]) (lenOf own_pd8 rfl) rfl (by show 2 * 0 + _ ≤ _; exact Nat.le_of_eq rfl) (hb hby at_43) (fun _ _ => ⟨rfl, e22, (by decide : 2 + 0 ≤ _), (by decide : 4 + 0 ≤ _)⟩)
  dsimp only [Pt.U, Pt.locs, Pt.cells, Pt.slots] at X32 l32 y32 z32 ls32 hQ32
  subst l32 y32 z32
  obtain ⟨rfl, Nq32, Kq32, Fq32_value, Fq32_beyond⟩ := hQ32
  have N32 := Fr.app N14 Nq32
  have f33 := f23.keep Kq32
  have f34 := f24.keep Kq32 (ninS ne_xs_xr nin0)
  have f35 := f25.keep Kq32 (ninS ne_xs_xr nin0)
  have f36 := A22.keep Kq32
  have z39 := Nat.le_trans z26 Kq32.1
  have k40 := Keep.trans k27 Kq32 (allS (P := fun x => x ∈ [] ∨ h0.size ≤ x) (Or.inr sz_xr) all0)
  have st41 : own_K p e below T32 m 46 #[.val (.long ua), .second, .val (.long ud), .second, iv uf, iv 0, iv x6, rv xs, .unset, .unset] [.ref xr] B0 := fun t kt => st31 t (ls32.trans kt)
  have hc42 : (0 : Int32) = (0 : Int32) := by decide
  have st43 : own_K p e below T32 m 75 #[.val (.long ua), .second, .val (.long ud), .second, iv uf, iv 0, iv x6, rv xs, rv xr, .unset] [] B0 := fun t kt => st41 t (by
   refine XS.astore X32.here hx rfl (hb hby at_46) rfl rfl (l' := #[.val (.long ua), .second, .val (.long ud), .second, iv uf, iv 0, iv x6, rv xs, rv xr, .unset]) rfl ?_
   refine XS.iload X32.here hx rfl (hb hby at_48) rfl ?_
   refine XS.ifYes X32.here hx rfl (pc0 := 50) (pc' := 75) rfl (hb hby at_50) rfl ((if0 _ _).trans (teq hc42).1) (by decide) (by decide) ?_
   exact kt)
  obtain ⟨T44, h44, X44, e44, E44, A44, D44, -, ls44⟩ := newO X32 hx hZ hown (own_w hw 0 rfl) (own_w hw 1 rfl) (own_w hw 2 rfl) rfl (g := (mkF m 75 #[.val (.long ua), .second, .val (.long ud), .second, iv uf, iv 0, iv x6, rv xs, rv xr, .unset] [])) rfl (hb hby at_75) (by decide) (by decide)
  obtain ⟨xt, g44⟩ : ∃ z, z = T32.heap.size := ⟨_, rfl⟩
  rw [← g44] at A44 D44 ls44
  have ne_xs_xt : xs ≠ xt := Nat.ne_of_lt (Nat.lt_of_lt_of_le f33.lt (Nat.le_of_eq g44.symm))
  have ne_xr_xt : xr ≠ xt := Nat.ne_of_lt (Nat.lt_of_lt_of_le f36.lt (Nat.le_of_eq g44.symm))
  have g_xt : n0 ≤ xt := Nat.le_trans z39 (Nat.le_of_eq g44.symm)
  have sz_xt : h0.size ≤ xt := Nat.le_trans k40.1 (Nat.le_of_eq g44.symm)
  have f45 := f33.ext E44
  have f46 := f34.ext E44
  have f47 := f35.ext E44
  have f48 := f36.ext E44
  have f49 := Fq32_value.ext E44
  have f50 := Fq32_beyond.ext E44
  have z51 := Nat.le_trans z39 E44.1
  have k52 := k40.ext E44
  have f53 : Fld Z h44 xt "com/example/pactum/pactum/admission/ExactSum" "value" "J" (.long (0 : Int64)) := D44 (Or.inl (own_w hw 10 rfl)) (ty := .long) (by decide)
  have f54 : Fld Z h44 xt "com/example/pactum/pactum/admission/ExactSum" "beyond" "Ljava/math/BigInteger;" .null := D44 (Or.inl (own_w hw 20 rfl)) (ty := (.object "java/math/BigInteger")) (by decide)
  have st55 := fun t kt => st43 t (ls44 t kt)
  have st56 : own_K p e below T44 m 79 #[.val (.long ua), .second, .val (.long ud), .second, iv uf, iv 0, iv x6, rv xs, rv xr, .unset] [.ref xt, .ref xt] B0 := fun t kt => st55 t (by
   refine XS.dup X44.here hx rfl (hb hby at_78) rfl rfl ?_
   exact kt)
  obtain ⟨_, _, ⟨T57, L57, k57, n57⟩, -, X57, ⟨Lc57, hQ57, l57, y57, z57⟩, ls57⟩ := X44.specialBack hx (y := (⟨"com/example/pactum/pactum/admission/ExactSum", "<init>", "()V"⟩ : MethodName)) rfl hown (mvT hZ (own_w hw 11 rfl)) (mvT hZ (own_w hw 12 rfl)) (mvT hZ (own_w hw 13 rfl)) (by decide) (backOf (W := 1) (rm_x0 l Z a0 hw [] xt h44 n0 z51) hZ (own_w hw 13 rfl) (own_w hw 2 rfl) (by decide) (by decide)) (g := (mkF m 79 #[.val (.long ua), .second, .val (.long ud), .second, iv uf, iv 0, iv x6, rv xs, rv xr, .unset] [.ref xt, .ref xt])) rfl (by rw [hml]; rfl) (Steps.refl _) (a := xt) (argsL := []) (rest := [.ref xt]) (lenOf own_pd0 rfl) rfl (by show 2 * 0 + _ ≤ _; exact Nat.le_of_eq rfl) (hb hby at_79) (fun _ _ => ⟨rfl, e44, (by decide : 3 + 0 ≤ _), (by decide : 6 + 0 ≤ _)⟩)
  dsimp only [Pt.U, Pt.locs, Pt.cells, Pt.slots] at X57 l57 y57 z57 ls57 hQ57
  subst l57 y57 z57
  obtain ⟨rfl, Nq57, eq57⟩ := hQ57
  have N57 := Fr.app N32 Nq57
  have st58 : own_K p e below T57 m 82 #[.val (.long ua), .second, .val (.long ud), .second, iv uf, iv 0, iv x6, rv xs, rv xr, .unset] [.ref xt] B0 := fun t kt => st56 t (ls57.trans kt)
  have st59 : own_K p e below T57 m 87 #[.val (.long ua), .second, .val (.long ud), .second, iv uf, iv 0, iv x6, rv xs, rv xr, rv xt] [.long ud, .ref xt] B0 := fun t kt => st58 t (by
   refine XS.astore X57.here hx rfl (hb hby at_82) rfl rfl (l' := #[.val (.long ua), .second, .val (.long ud), .second, iv uf, iv 0, iv x6, rv xs, rv xr, rv xt]) rfl ?_
   refine XS.aload X57.here hx rfl (hb hby at_84) rfl rfl ?_
   refine XS.lloadN X57.here hx rfl (hb hby at_86) rfl ?_
   exact kt)
  obtain ⟨cq60, kq60, q60a, q60b, q60c⟩ := isOf hZ eq57 A44
  obtain ⟨_, _, ⟨T60, L60, k60, n60⟩, -, X60, ⟨Lc60, hQ60, l60, y60, z60⟩, ls60⟩ := X57.virtualBack hx (y := (⟨"com/example/pactum/pactum/admission/ExactSum", "add", "(J)V"⟩ : MethodName)) (z := (⟨"com/example/pactum/pactum/admission/ExactSum", "add", "(J)V"⟩ : MethodName)) hown (mvT hZ (own_w hw 14 rfl)) (mvT hZ (own_w hw 15 rfl)) (notFace_of_selects (args := #[]) (mvT hZ (own_w hw 17 rfl))) (mvT hZ (own_w hw 17 rfl)) (mvT hZ (own_w hw 16 rfl)) (by decide) (backOf (W := 0) (rm_aj l Z a0 hw [] xt ud h44 n0 z51 A44 g_xt f53 f54) hZ (own_w hw 18 rfl) (own_w hw 2 rfl) (by decide) (by decide)) q60a q60c (g := (mkF m 87 #[.val (.long ua), .second, .val (.long ud), .second, iv uf, iv 0, iv x6, rv xs, rv xr, rv xt] [.long ud, .ref xt])) rfl (by rw [hml]; rfl) (Steps.refl _) (argsL := [.long ud]) (rest := []) (lenOf own_pd8 rfl) rfl (by show 2 * 0 + _ ≤ _; exact Nat.le_of_eq rfl) (hb hby at_87) (fun _ _ => ⟨rfl, eq57, (by decide : 3 + 0 ≤ _), (by decide : 6 + 0 ≤ _)⟩)
  dsimp only [Pt.U, Pt.locs, Pt.cells, Pt.slots] at X60 l60 y60 z60 ls60 hQ60
  subst l60 y60 z60
  obtain ⟨rfl, Nq60, Kq60, Fq60_value, Fq60_beyond⟩ := hQ60
  have N60 := Fr.app N57 Nq60
  have f61 := f45.keep Kq60
  have f62 := f46.keep Kq60 (ninS ne_xs_xt nin0)
  have f63 := f47.keep Kq60 (ninS ne_xs_xt nin0)
  have f64 := f48.keep Kq60
  have f65 := f49.keep Kq60 (ninS ne_xr_xt nin0)
  have f66 := f50.keep Kq60 (ninS ne_xr_xt nin0)
  have f67 := A44.keep Kq60
  have z70 := Nat.le_trans z51 Kq60.1
  have k71 := Keep.trans k52 Kq60 (allS (P := fun x => x ∈ [] ∨ h0.size ≤ x) (Or.inr sz_xt) all0)
  have st72 : own_K p e below T60 m 90 #[.val (.long ua), .second, .val (.long ud), .second, iv uf, iv 0, iv x6, rv xs, rv xr, rv xt] [] B0 := fun t kt => st59 t (ls60.trans kt)
  have st73 : own_K p e below T60 m 92 #[.val (.long ua), .second, .val (.long ud), .second, iv uf, iv 0, iv x6, rv xs, rv xr, rv xt] [.int x6] B0 := fun t kt => st72 t (by
   refine XS.iload X60.here hx rfl (hb hby at_90) rfl ?_
   exact kt)
  obtain ⟨ov, T74, L74, X74, N74, Z74, KJ, Ej_xs, Ej_xr, Ej_xt, Vj_xs, Bj_xs, Vj_xr, Bj_xr, Vj_xt, Bj_xt, st74⟩ : ∃ (ov : Value) (T74 : State) (L' : List Loc), Stand p l e room_1 s m #[.long ua, .long ud, .int uf] below meth c T74 L' 13 50 ∧ Fr n0 L' ∧ n0 ≤ T74.heap.size ∧ (Keep h0 T74.heap []) ∧ (Exa Z T74.heap xs "com/example/pactum/pactum/admission/ExactSum") ∧ (Exa Z T74.heap xr "com/example/pactum/pactum/admission/ExactSum") ∧ (Exa Z T74.heap xt "com/example/pactum/pactum/admission/ExactSum") ∧ (Fld Z T74.heap xs "com/example/pactum/pactum/admission/ExactSum" "value" "J" (.long ua)) ∧ (Fld Z T74.heap xs "com/example/pactum/pactum/admission/ExactSum" "beyond" "Ljava/math/BigInteger;" .null) ∧ (Fld Z T74.heap xr "com/example/pactum/pactum/admission/ExactSum" "value" "J" (.long ua)) ∧ (Fld Z T74.heap xr "com/example/pactum/pactum/admission/ExactSum" "beyond" "Ljava/math/BigInteger;" .null) ∧ (Fld Z T74.heap xt "com/example/pactum/pactum/admission/ExactSum" "value" "J" (.long ud)) ∧ (Fld Z T74.heap xt "com/example/pactum/pactum/admission/ExactSum" "beyond" "Ljava/math/BigInteger;" ov) ∧ own_K p e below T74 m 106 #[.val (.long ua), .second, .val (.long ud), .second, iv uf, iv 0, iv x6, rv xs, rv xr, rv xt] [] B0 := by
   by_cases q3 : x6 = (0 : Int32)
   ·have st75 : own_K p e below T60 m 106 #[.val (.long ua), .second, .val (.long ud), .second, iv uf, iv 0, iv x6, rv xs, rv xr, rv xt] [] B0 := fun t kt => st73 t (by
     refine XS.ifYes X60.here hx rfl (pc0 := 92) (pc' := 106) rfl (hb hby at_92) rfl ((if0 _ _).trans (teq q3).1) (by decide) (by decide) ?_
     exact kt)
    exact ⟨.null, _, _, X60.more (by decide) (by decide), N60, z70, k71, f61, f64, f67, f62, f63, f65, f66, Fq60_value, Fq60_beyond, st75⟩
   ·have st76 : own_K p e below T60 m 103 #[.val (.long ua), .second, .val (.long ud), .second, iv uf, iv 0, iv x6, rv xs, rv xr, rv xt] [.long (9223372036854775807 : Int64), .long (9223372036854775807 : Int64), .ref xt] B0 := fun t kt => st73 t (by
     refine XS.ifNo X60.here hx rfl (hb hby at_92) rfl ((if0 _ _).trans (feq q3).1) ?_
     refine XS.aload X60.here hx rfl (hb hby at_95) rfl rfl ?_
     show own_At p e below T60 m 97 #[.val (.long ua), .second, .val (.long ud), .second, iv uf, iv 0, iv x6, rv xs, rv xr, rv xt] [.ref xt] _
     refine X60.ldc2Long hx hown (mvT hZ (own_w hw 45 rfl)) (g := (mkF m 97 #[.val (.long ua), .second, .val (.long ud), .second, iv uf, iv 0, iv x6, rv xs, rv xr, rv xt] [.ref xt])) rfl (hb hby at_97) _ ?_
     show own_At p e below T60 m 100 #[.val (.long ua), .second, .val (.long ud), .second, iv uf, iv 0, iv x6, rv xs, rv xr, rv xt] [.long (9223372036854775807 : Int64), .ref xt] _
     refine X60.ldc2Long hx hown (mvT hZ (own_w hw 45 rfl)) (g := (mkF m 100 #[.val (.long ua), .second, .val (.long ud), .second, iv uf, iv 0, iv x6, rv xs, rv xr, rv xt] [.long (9223372036854775807 : Int64), .ref xt])) rfl (hb hby at_100) _ ?_
     exact kt)
    have lt77_xs := f61.lt
    have lt77_xr := f64.lt
    have lt77_xt := f67.lt
    obtain ⟨cq77, kq77, q77a, q77b, q77c⟩ := isOf hZ rfl f67
    obtain ⟨_, _, ⟨T77, L77, k77, n77⟩, -, X77, ⟨Lc77, hQ77, l77, y77, z77⟩, ls77⟩ := X60.virtualBack hx (y := (⟨"com/example/pactum/pactum/admission/ExactSum", "add", "(JJ)V"⟩ : MethodName)) (z := (⟨"com/example/pactum/pactum/admission/ExactSum", "add", "(JJ)V"⟩ : MethodName)) hown (mvT hZ (own_w hw 46 rfl)) (mvT hZ (own_w hw 47 rfl)) (notFace_of_selects (args := #[]) (mvT hZ (own_w hw 49 rfl))) (mvT hZ (own_w hw 49 rfl)) (mvT hZ (own_w hw 48 rfl)) (by decide) (backOf (W := 0) (rm_aJJ l Z a0 hw [] xt ud T60.heap n0 z70 f67 g_xt Fq60_value Fq60_beyond (Cs.keep0 k71)) hZ (own_w hw 50 rfl) (own_w hw 2 rfl) (by decide) (by decide)) q77a q77c (g := (mkF m 103 #[.val (.long ua), .second, .val (.long ud), .second, iv uf, iv 0, iv x6, rv xs, rv xr, rv xt] [.long (9223372036854775807 : Int64), .long (9223372036854775807 : Int64), .ref xt])) rfl (by rw [hml]; rfl) (Steps.refl _) (argsL := [.long (9223372036854775807 : Int64), .long (9223372036854775807 : Int64)]) (rest := []) (lenOf own_pd14 rfl) rfl (by show 2 * 0 + _ ≤ _; exact Nat.le_of_eq rfl) (hb hby at_103) (fun _ _ => ⟨rfl, rfl, (by decide : 3 + 10 ≤ _), (by decide : 6 + 44 ≤ _)⟩)
    dsimp only [Pt.U, Pt.locs, Pt.cells, Pt.slots] at X77 l77 y77 z77 ls77 hQ77
    subst l77 y77 z77
    obtain ⟨rfl, Nq77, Kq77, Fq77_value, bq77, mq77, Fq77_beyond, Bq77, sb77, sm77⟩ := hQ77
    have N77 := Fr.app N60 Nq77
    have f78 := f61.keep Kq77
    have f79 := f62.keep Kq77 (ninS ne_xs_xt nin0)
    have f80 := f63.keep Kq77 (ninS ne_xs_xt nin0)
    have f81 := f64.keep Kq77
    have f82 := f65.keep Kq77 (ninS ne_xr_xt nin0)
    have f83 := f66.keep Kq77 (ninS ne_xr_xt nin0)
    have f84 := f67.keep Kq77
    have z87 := Nat.le_trans z70 Kq77.1
    have k88 := Keep.trans k71 Kq77 (allS (P := fun x => x ∈ [] ∨ h0.size ≤ x) (Or.inr sz_xt) all0)
    have sz_bq77 : h0.size ≤ bq77 := Nat.le_trans k71.1 sb77
    have sz_mq77 : h0.size ≤ mq77 := Nat.le_trans k71.1 sm77
    have st89 : own_K p e below T77 m 106 #[.val (.long ua), .second, .val (.long ud), .second, iv uf, iv 0, iv x6, rv xs, rv xr, rv xt] [] B0 := fun t kt => st76 t (ls77.trans kt)
    obtain ⟨Ee77, Fs77, Fm77, Am77⟩ := Bq77
    exact ⟨(.ref bq77), _, _, X77.more (by decide) (by decide), N77, z87, k88, f78, f81, f84, f79, f80, f82, f83, Fq77_value, Fq77_beyond, st89⟩
  have st90 : own_K p e below T74 m 110 #[.val (.long ua), .second, .val (.long ud), .second, iv uf, iv 0, iv x6, rv xs, rv xr, rv xt] [.ref xs, .ref xt] B0 := fun t kt => st74 t (by
   refine XS.aload X74.here hx rfl (hb hby at_106) rfl rfl ?_
   refine XS.aload X74.here hx rfl (hb hby at_108) rfl rfl ?_
   exact kt)
  obtain ⟨cq91, kq91, q91a, q91b, q91c⟩ := isOf hZ rfl Ej_xt
  obtain ⟨_, _, ⟨T91, L91, k91, n91⟩, -, X91, ⟨Lc91, hQ91, l91, y91, z91⟩, ls91⟩ := X74.virtualBack hx (y := (⟨"com/example/pactum/pactum/admission/ExactSum", "set", "(Lcom/example/pactum/pactum/admission/ExactSum;)V"⟩ : MethodName)) (z := (⟨"com/example/pactum/pactum/admission/ExactSum", "set", "(Lcom/example/pactum/pactum/admission/ExactSum;)V"⟩ : MethodName)) hown (mvT hZ (own_w hw 21 rfl)) (mvT hZ (own_w hw 22 rfl)) (notFace_of_selects (args := #[]) (mvT hZ (own_w hw 24 rfl))) (mvT hZ (own_w hw 24 rfl)) (mvT hZ (own_w hw 23 rfl)) (by decide) (backOf (W := 0) (rm_sN l Z a0 hw [] xt xs ua ud ov T74.heap n0 Z74 Ej_xt g_xt Vj_xt Bj_xt Vj_xs Bj_xs ((Ne.symm ne_xs_xt))) hZ (own_w hw 25 rfl) (own_w hw 2 rfl) (by decide) (by decide)) q91a q91c (g := (mkF m 110 #[.val (.long ua), .second, .val (.long ud), .second, iv uf, iv 0, iv x6, rv xs, rv xr, rv xt] [.ref xs, .ref xt])) rfl (by rw [hml]; rfl) (Steps.refl _) (argsL := [.ref xs]) (rest := []) (lenOf own_pd15 rfl) rfl (by show 2 * 0 + _ ≤ _; exact Nat.le_of_eq rfl) (hb hby at_110) (fun _ _ => ⟨rfl, rfl, (by decide : 13 + 0 ≤ _), (by decide : 50 + 0 ≤ _)⟩)
  dsimp only [Pt.U, Pt.locs, Pt.cells, Pt.slots] at X91 l91 y91 z91 ls91 hQ91
  subst l91 y91 z91
  obtain ⟨rfl, Nq91, Kq91, Fq91_value, Fq91_beyond⟩ := hQ91
  have N91 := Fr.app N74 Nq91
  have f92 := Ej_xs.keep Kq91
  have f93 := Vj_xs.keep Kq91 (ninS ne_xs_xt nin0)
  have f94 := Bj_xs.keep Kq91 (ninS ne_xs_xt nin0)
  have f96 := Vj_xr.keep Kq91 (ninS ne_xr_xt nin0)
  have f97 := Bj_xr.keep Kq91 (ninS ne_xr_xt nin0)
  have f98 := Ej_xt.keep Kq91
  have z101 := Nat.le_trans Z74 Kq91.1
  have k102 := Keep.trans KJ Kq91 (allS (P := fun x => x ∈ [] ∨ h0.size ≤ x) (Or.inr sz_xt) all0)
  have st103 : own_K p e below T91 m 113 #[.val (.long ua), .second, .val (.long ud), .second, iv uf, iv 0, iv x6, rv xs, rv xr, rv xt] [] B0 := fun t kt => st90 t (ls91.trans kt)
  have st104 : own_K p e below T91 m 115 #[.val (.long ua), .second, .val (.long ud), .second, iv uf, iv 0, iv x6, rv xs, rv xr, rv xt] [.ref xt] B0 := fun t kt => st103 t (by
   refine XS.aload X91.here hx rfl (hb hby at_113) rfl rfl ?_
   exact kt)
  obtain ⟨cq105, kq105, q105a, q105b, q105c⟩ := isOf hZ rfl f98
  obtain ⟨_, _, ⟨T105, L105, k105, n105⟩, -, X105, ⟨Lc105, hQ105, l105, y105, z105⟩, ls105⟩ := X91.virtualBack hx (y := (⟨"com/example/pactum/pactum/admission/ExactSum", "fitsLong", "()Z"⟩ : MethodName)) (z := (⟨"com/example/pactum/pactum/admission/ExactSum", "fitsLong", "()Z"⟩ : MethodName)) hown (mvT hZ (own_w hw 26 rfl)) (mvT hZ (own_w hw 27 rfl)) (notFace_of_selects (args := #[]) (mvT hZ (own_w hw 29 rfl))) (mvT hZ (own_w hw 29 rfl)) (mvT hZ (own_w hw 28 rfl)) (by decide) (backOf (W := 0) (rm_fN l Z a0 hw [] xt T91.heap n0 z101 Fq91_beyond) hZ (own_w hw 30 rfl) (own_w hw 2 rfl) (by decide) (by decide)) q105a q105c (g := (mkF m 115 #[.val (.long ua), .second, .val (.long ud), .second, iv uf, iv 0, iv x6, rv xs, rv xr, rv xt] [.ref xt])) rfl (by rw [hml]; rfl) (Steps.refl _) (argsL := []) (rest := []) (lenOf own_pd16 rfl) rfl (by show 2 * 0 + _ ≤ _; exact Nat.le_of_eq rfl) (hb hby at_115) (fun _ _ => ⟨rfl, rfl, (by decide : 13 + 0 ≤ _), (by decide : 50 + 0 ≤ _)⟩)
  dsimp only [Pt.U, Pt.locs, Pt.cells, Pt.slots] at X105 l105 y105 z105 ls105 hQ105
  subst l105 y105 z105
  obtain ⟨rfl, Nq105, eq105⟩ := hQ105
  have N105 := Fr.app N91 Nq105
  have st106 : own_K p e below T105 m 118 #[.val (.long ua), .second, .val (.long ud), .second, iv uf, iv 0, iv x6, rv xs, rv xr, rv xt] [.int 1] B0 := fun t kt => st104 t (ls105.trans kt)
  have hc107 : (0 : Int32) = (0 : Int32) := by decide
  have hc108 : (1 : Int32) = (1 : Int32) := rfl
  have hc109 : (0 : Int32) = (0 : Int32) := by decide
  have st110 : own_K p e below T105 m 140 #[.val (.long ua), .second, .val (.long ud), .second, iv uf, iv 0, iv x6, rv xs, rv xr, rv xt] [.ref xt] B0 := fun t kt => st106 t (by
   refine XS.iload X105.here hx rfl (hb hby at_118) rfl ?_
   refine XS.ifNo X105.here hx rfl (hb hby at_120) rfl ((if0 _ _).trans (teq hc107).2) ?_
   refine XS.iconst X105.here hx rfl (hb hby at_123) ?_
   refine XS.goto X105.here hx rfl (pc0 := 124) (pc' := 128) rfl (hb hby at_124) (by decide) (by decide) ?_
   refine XS.icmpYes X105.here hx rfl (pc0 := 128) (pc' := 133) rfl (hb hby at_128) rfl (teq hc108).1 (by decide) (by decide) ?_
   refine XS.iload X105.here hx rfl (hb hby at_133) rfl ?_
   refine XS.ifNo X105.here hx rfl (hb hby at_135) rfl ((if0 _ _).trans (teq hc109).2) ?_
   refine XS.aload X105.here hx rfl (hb hby at_138) rfl rfl ?_
   exact kt)
  obtain ⟨cq111, kq111, q111a, q111b, q111c⟩ := isOf hZ eq105 f98
  obtain ⟨_, _, ⟨T111, L111, k111, n111⟩, -, X111, ⟨Lc111, hQ111, l111, y111, z111⟩, ls111⟩ := X105.virtualBack hx (y := (⟨"com/example/pactum/pactum/admission/ExactSum", "longValue", "()J"⟩ : MethodName)) (z := (⟨"com/example/pactum/pactum/admission/ExactSum", "longValue", "()J"⟩ : MethodName)) hown (mvT hZ (own_w hw 31 rfl)) (mvT hZ (own_w hw 32 rfl)) (notFace_of_selects (args := #[]) (mvT hZ (own_w hw 34 rfl))) (mvT hZ (own_w hw 34 rfl)) (mvT hZ (own_w hw 33 rfl)) (by decide) (backOf (W := 0) (rm_lv l Z a0 hw [] xt ua T91.heap n0 z101 Fq91_value) hZ (own_w hw 35 rfl) (own_w hw 2 rfl) (by decide) (by decide)) q111a q111c (g := (mkF m 140 #[.val (.long ua), .second, .val (.long ud), .second, iv uf, iv 0, iv x6, rv xs, rv xr, rv xt] [.ref xt])) rfl (by rw [hml]; rfl) (Steps.refl _) (argsL := []) (rest := []) (lenOf own_pd17 rfl) rfl (by show 2 * 0 + _ ≤ _; exact Nat.le_of_eq rfl) (hb hby at_140) (fun _ _ => ⟨rfl, eq105, (by decide : 13 + 0 ≤ _), (by decide : 50 + 0 ≤ _)⟩)
  dsimp only [Pt.U, Pt.locs, Pt.cells, Pt.slots] at X111 l111 y111 z111 ls111 hQ111
  subst l111 y111 z111
  obtain ⟨rfl, Nq111, eq111⟩ := hQ111
  have N111 := Fr.app N105 Nq111
  have st112 : own_K p e below T111 m 143 #[.val (.long ua), .second, .val (.long ud), .second, iv uf, iv 0, iv x6, rv xs, rv xr, rv xt] [.long ua] B0 := fun t kt => st110 t (ls111.trans kt)
  have hc113 : ua = ua := rfl
  have st114 : own_K p e below T111 m 154 #[.val (.long ua), .second, .val (.long ud), .second, iv uf, iv 0, iv x6, rv xs, rv xr, rv xt] [.ref xr, .ref xt] B0 := fun t kt => st112 t (by
   refine XS.lloadN X111.here hx rfl (hb hby at_143) rfl ?_
   refine XS.lcmp X111.here hx rfl (hb hby at_144) rfl ?_
   refine XS.ifYes X111.here hx rfl (pc0 := 145) (pc' := 150) rfl (hb hby at_145) rfl ((if0 _ _).trans (teq ((lw_eq _ _).mpr hc113)).1) (by decide) (by decide) ?_
   refine XS.aload X111.here hx rfl (hb hby at_150) rfl rfl ?_
   refine XS.aload X111.here hx rfl (hb hby at_152) rfl rfl ?_
   exact kt)
  obtain ⟨cq115, kq115, q115a, q115b, q115c⟩ := isOf hZ eq111 f98
  obtain ⟨_, _, ⟨T115, L115, k115, n115⟩, -, X115, ⟨Lc115, hQ115, l115, y115, z115⟩, ls115⟩ := X111.virtualBack hx (y := (⟨"com/example/pactum/pactum/admission/ExactSum", "compareTo", "(Lcom/example/pactum/pactum/admission/ExactSum;)I"⟩ : MethodName)) (z := (⟨"com/example/pactum/pactum/admission/ExactSum", "compareTo", "(Lcom/example/pactum/pactum/admission/ExactSum;)I"⟩ : MethodName)) hown (mvT hZ (own_w hw 36 rfl)) (mvT hZ (own_w hw 37 rfl)) (notFace_of_selects (args := #[]) (mvT hZ (own_w hw 39 rfl))) (mvT hZ (own_w hw 39 rfl)) (mvT hZ (own_w hw 38 rfl)) (by decide) (backOf (W := 0) (rm_ctN l Z a0 hw [] xt xr ua T91.heap n0 z101 Fq91_value Fq91_beyond f96 f97) hZ (own_w hw 40 rfl) (own_w hw 2 rfl) (by decide) (by decide)) q115a q115c (g := (mkF m 154 #[.val (.long ua), .second, .val (.long ud), .second, iv uf, iv 0, iv x6, rv xs, rv xr, rv xt] [.ref xr, .ref xt])) rfl (by rw [hml]; rfl) (Steps.refl _) (argsL := [.ref xr]) (rest := []) (lenOf own_pd18 rfl) rfl (by show 2 * 0 + _ ≤ _; exact Nat.le_of_eq rfl) (hb hby at_154) (fun _ _ => ⟨rfl, eq111, (by decide : 13 + 0 ≤ _), (by decide : 50 + 0 ≤ _)⟩)
  dsimp only [Pt.U, Pt.locs, Pt.cells, Pt.slots] at X115 l115 y115 z115 ls115 hQ115
  subst l115 y115 z115
  obtain ⟨rfl, Nq115, eq115⟩ := hQ115
  have N115 := Fr.app N111 Nq115
  have st116 : own_K p e below T115 m 157 #[.val (.long ua), .second, .val (.long ud), .second, iv uf, iv 0, iv x6, rv xs, rv xr, rv xt] [.int 0] B0 := fun t kt => st114 t (ls115.trans kt)
  have hc117 : (0 : Int32) = (0 : Int32) := rfl
  have st118 : own_K p e below T115 m 166 #[.val (.long ua), .second, .val (.long ud), .second, iv uf, iv 0, iv x6, rv xs, rv xr, rv xt] [.ref xr, .ref xs] B0 := fun t kt => st116 t (by
   refine XS.ifYes X115.here hx rfl (pc0 := 157) (pc' := 162) rfl (hb hby at_157) rfl ((if0 _ _).trans (teq hc117).1) (by decide) (by decide) ?_
   refine XS.aload X115.here hx rfl (hb hby at_162) rfl rfl ?_
   refine XS.aload X115.here hx rfl (hb hby at_164) rfl rfl ?_
   exact kt)
  obtain ⟨cq119, kq119, q119a, q119b, q119c⟩ := isOf hZ eq115 f92
  obtain ⟨_, _, ⟨T119, L119, k119, n119⟩, -, X119, ⟨Lc119, hQ119, l119, y119, z119⟩, ls119⟩ := X115.virtualBack hx (y := (⟨"com/example/pactum/pactum/admission/ExactSum", "compareTo", "(Lcom/example/pactum/pactum/admission/ExactSum;)I"⟩ : MethodName)) (z := (⟨"com/example/pactum/pactum/admission/ExactSum", "compareTo", "(Lcom/example/pactum/pactum/admission/ExactSum;)I"⟩ : MethodName)) hown (mvT hZ (own_w hw 36 rfl)) (mvT hZ (own_w hw 37 rfl)) (notFace_of_selects (args := #[]) (mvT hZ (own_w hw 39 rfl))) (mvT hZ (own_w hw 39 rfl)) (mvT hZ (own_w hw 38 rfl)) (by decide) (backOf (W := 0) (rm_ctN l Z a0 hw [] xs xr ua T91.heap n0 z101 f93 f94 f96 f97) hZ (own_w hw 40 rfl) (own_w hw 2 rfl) (by decide) (by decide)) q119a q119c (g := (mkF m 166 #[.val (.long ua), .second, .val (.long ud), .second, iv uf, iv 0, iv x6, rv xs, rv xr, rv xt] [.ref xr, .ref xs])) rfl (by rw [hml]; rfl) (Steps.refl _) (argsL := [.ref xr]) (rest := []) (lenOf own_pd18 rfl) rfl (by show 2 * 0 + _ ≤ _; exact Nat.le_of_eq rfl) (hb hby at_166) (fun _ _ => ⟨rfl, eq115, (by decide : 13 + 0 ≤ _), (by decide : 50 + 0 ≤ _)⟩)
  dsimp only [Pt.U, Pt.locs, Pt.cells, Pt.slots] at X119 l119 y119 z119 ls119 hQ119
  subst l119 y119 z119
  obtain ⟨rfl, Nq119, eq119⟩ := hQ119
  have N119 := Fr.app N115 Nq119
  have st120 : own_K p e below T119 m 169 #[.val (.long ua), .second, .val (.long ud), .second, iv uf, iv 0, iv x6, rv xs, rv xr, rv xt] [.int 0] B0 := fun t kt => st118 t (ls119.trans kt)
  have hc121 : (0 : Int32) = (0 : Int32) := rfl
  have st122 : own_K p e below T119 m 176 #[.val (.long ua), .second, .val (.long ud), .second, iv uf, iv 0, iv x6, rv xs, rv xr, rv xt] [.ref xs] B0 := fun t kt => st120 t (by
   refine XS.ifYes X119.here hx rfl (pc0 := 169) (pc' := 174) rfl (hb hby at_169) rfl ((if0 _ _).trans (teq hc121).1) (by decide) (by decide) ?_
   refine XS.aload X119.here hx rfl (hb hby at_174) rfl rfl ?_
   exact kt)
  obtain ⟨cq123, kq123, q123a, q123b, q123c⟩ := isOf hZ eq119 f92
  obtain ⟨_, _, ⟨T123, L123, k123, n123⟩, -, X123, ⟨Lc123, hQ123, l123, y123, z123⟩, ls123⟩ := X119.virtualBack hx (y := (⟨"com/example/pactum/pactum/admission/ExactSum", "fitsLong", "()Z"⟩ : MethodName)) (z := (⟨"com/example/pactum/pactum/admission/ExactSum", "fitsLong", "()Z"⟩ : MethodName)) hown (mvT hZ (own_w hw 26 rfl)) (mvT hZ (own_w hw 27 rfl)) (notFace_of_selects (args := #[]) (mvT hZ (own_w hw 29 rfl))) (mvT hZ (own_w hw 29 rfl)) (mvT hZ (own_w hw 28 rfl)) (by decide) (backOf (W := 0) (rm_fN l Z a0 hw [] xs T91.heap n0 z101 f94) hZ (own_w hw 30 rfl) (own_w hw 2 rfl) (by decide) (by decide)) q123a q123c (g := (mkF m 176 #[.val (.long ua), .second, .val (.long ud), .second, iv uf, iv 0, iv x6, rv xs, rv xr, rv xt] [.ref xs])) rfl (by rw [hml]; rfl) (Steps.refl _) (argsL := []) (rest := []) (lenOf own_pd16 rfl) rfl (by show 2 * 0 + _ ≤ _; exact Nat.le_of_eq rfl) (hb hby at_176) (fun _ _ => ⟨rfl, eq119, (by decide : 13 + 0 ≤ _), (by decide : 50 + 0 ≤ _)⟩)
  dsimp only [Pt.U, Pt.locs, Pt.cells, Pt.slots] at X123 l123 y123 z123 ls123 hQ123
  subst l123 y123 z123
  obtain ⟨rfl, Nq123, eq123⟩ := hQ123
  have N123 := Fr.app N119 Nq123
  have st124 : own_K p e below T123 m 179 #[.val (.long ua), .second, .val (.long ud), .second, iv uf, iv 0, iv x6, rv xs, rv xr, rv xt] [.int 1] B0 := fun t kt => st122 t (ls123.trans kt)
  have hc125 : (0 : Int32) = (0 : Int32) := by decide
  have hc126 : (1 : Int32) = (1 : Int32) := rfl
  have st127 : own_K p e below T123 m 197 #[.val (.long ua), .second, .val (.long ud), .second, iv uf, iv 0, iv x6, rv xs, rv xr, rv xt] [.int 1] B0 := fun t kt => st124 t (by
   refine XS.iload X123.here hx rfl (hb hby at_179) rfl ?_
   refine XS.ifNo X123.here hx rfl (hb hby at_181) rfl ((if0 _ _).trans (teq hc125).2) ?_
   refine XS.iconst X123.here hx rfl (hb hby at_184) ?_
   refine XS.goto X123.here hx rfl (pc0 := 185) (pc' := 189) rfl (hb hby at_185) (by decide) (by decide) ?_
   refine XS.icmpNo X123.here hx rfl (hb hby at_189) rfl (teq hc126).2 ?_
   refine XS.iconst X123.here hx rfl (hb hby at_192) ?_
   refine XS.goto X123.here hx rfl (pc0 := 193) (pc' := 197) rfl (hb hby at_193) (by decide) (by decide) ?_
   exact kt)
  obtain ⟨fs, hr, hrun, hended, hW, hsame⟩ := X123.leave (v := (some (.int 1))) (fun h => by rw [Bd.returns] at h; cases h)
  subst hB0
  refine ⟨_, _, st127 _ ?_, hrun, hended, _, _, rfl, ?_, ⟨_, rfl⟩, hW, hsame.mono (by decide) (by decide)⟩
  ·exact retN X123 hx (t := .boolean) Bd.returns (by simp) (hb hby at_197) hr
  ·show Q_rm_law Z ua ud uf h0 n0 _ T123.heap _
   rw [eq123]
   exact ⟨rfl, N123⟩
 ·have st128 : own_K p e below s₁ m 18 #[.val (.long ua), .second, .val (.long ud), .second, iv uf, iv 1, .unset, .unset, .unset, .unset] [(.int (uf &&& (2 : Int32)))] B0 := fun t kt => st1 t (by
   refine XS.ifNo X0.here hx rfl (hb hby at_4) rfl ((if0 _ _).trans (feq q1).1) ?_
   refine XS.iconst X0.here hx rfl (hb hby at_7) ?_
   refine XS.goto X0.here hx rfl (pc0 := 8) (pc' := 12) rfl (hb hby at_8) (by decide) (by decide) ?_
   refine XS.istore X0.here hx rfl (hb hby at_12) rfl (l' := #[.val (.long ua), .second, .val (.long ud), .second, iv uf, iv 1, .unset, .unset, .unset, .unset]) rfl ?_
   refine XS.iload X0.here hx rfl (hb hby at_14) rfl ?_
   refine XS.iconst X0.here hx rfl (hb hby at_16) ?_
   refine XS.iand X0.here hx rfl (hb hby at_17) rfl ?_
   exact kt)
  obtain ⟨x6, hj129, st129⟩ : ∃ (x6 : Int32), (True) ∧ own_K p e below s₁ m 26 #[.val (.long ua), .second, .val (.long ud), .second, iv uf, iv 1, .unset, .unset, .unset, .unset] [.int x6] B0 := by
   by_cases q2 : (uf &&& (2 : Int32)) = (0 : Int32)
   ·have st130 : own_K p e below s₁ m 26 #[.val (.long ua), .second, .val (.long ud), .second, iv uf, iv 1, .unset, .unset, .unset, .unset] [.int 0] B0 := fun t kt => st128 t (by
     refine XS.ifYes X0.here hx rfl (pc0 := 18) (pc' := 25) rfl (hb hby at_18) rfl ((if0 _ _).trans (teq q2).1) (by decide) (by decide) ?_
     refine XS.iconst X0.here hx rfl (hb hby at_25) ?_
     exact kt)
    exact ⟨(0 : Int32), trivial, st130⟩
   ·have st131 : own_K p e below s₁ m 26 #[.val (.long ua), .second, .val (.long ud), .second, iv uf, iv 1, .unset, .unset, .unset, .unset] [.int 1] B0 := fun t kt => st128 t (by
     refine XS.ifNo X0.here hx rfl (hb hby at_18) rfl ((if0 _ _).trans (feq q2).1) ?_
     refine XS.iconst X0.here hx rfl (hb hby at_21) ?_
     refine XS.goto X0.here hx rfl (pc0 := 22) (pc' := 26) rfl (hb hby at_22) (by decide) (by decide) ?_
     exact kt)
    exact ⟨(1 : Int32), trivial, st131⟩
  have st132 : own_K p e below s₁ m 28 #[.val (.long ua), .second, .val (.long ud), .second, iv uf, iv 1, iv x6, .unset, .unset, .unset] [] B0 := fun t kt => st129 t (by
   refine XS.istore X0.here hx rfl (hb hby at_26) rfl (l' := #[.val (.long ua), .second, .val (.long ud), .second, iv uf, iv 1, iv x6, .unset, .unset, .unset]) rfl ?_
   exact kt)
  obtain ⟨T133, h133, X133, e133, E133, A133, D133, -, ls133⟩ := newO X0 hx hZ hown (own_w hw 0 rfl) (own_w hw 1 rfl) (own_w hw 2 rfl) e0 (g := (mkF m 28 #[.val (.long ua), .second, .val (.long ud), .second, iv uf, iv 1, iv x6, .unset, .unset, .unset] [])) rfl (hb hby at_28) (by decide) (by decide)
  obtain ⟨xs, g133⟩ : ∃ z, z = h0.size := ⟨_, rfl⟩
  rw [← g133] at A133 D133 ls133
  have g_xs : n0 ≤ xs := Nat.le_trans Z0 (Nat.le_of_eq g133.symm)
  have sz_xs : h0.size ≤ xs := Nat.le_trans k0.1 (Nat.le_of_eq g133.symm)
  have z134 := Nat.le_trans Z0 E133.1
  have k135 := k0.ext E133
  have f136 : Fld Z h133 xs "com/example/pactum/pactum/admission/ExactSum" "value" "J" (.long (0 : Int64)) := D133 (Or.inl (own_w hw 10 rfl)) (ty := .long) (by decide)
  have f137 : Fld Z h133 xs "com/example/pactum/pactum/admission/ExactSum" "beyond" "Ljava/math/BigInteger;" .null := D133 (Or.inl (own_w hw 20 rfl)) (ty := (.object "java/math/BigInteger")) (by decide)
  have st138 := fun t kt => st132 t (ls133 t kt)
  have st139 : own_K p e below T133 m 33 #[.val (.long ua), .second, .val (.long ud), .second, iv uf, iv 1, iv x6, .unset, .unset, .unset] [.long ua, .ref xs, .ref xs] B0 := fun t kt => st138 t (by
   refine XS.dup X133.here hx rfl (hb hby at_31) rfl rfl ?_
   refine XS.lloadN X133.here hx rfl (hb hby at_32) rfl ?_
   exact kt)
  obtain ⟨_, _, ⟨T140, L140, k140, n140⟩, -, X140, ⟨Lc140, hQ140, l140, y140, z140⟩, ls140⟩ := X133.specialBack hx (y := (⟨"com/example/pactum/pactum/admission/ExactSum", "<init>", "(J)V"⟩ : MethodName)) rfl hown (mvT hZ (own_w hw 3 rfl)) (mvT hZ (own_w hw 4 rfl)) (mvT hZ (own_w hw 5 rfl)) (by decide) (backOf (W := 1) (rm_xj l Z a0 hw [] xs ua h133 n0 z134 A133 g_xs f136 f137) hZ (own_w hw 5 rfl) (own_w hw 2 rfl) (by decide) (by decide)) (g := (mkF m 33 #[.val (.long ua), .second, .val (.long ud), .second, iv uf, iv 1, iv x6, .unset, .unset, .unset] [.long ua, .ref xs, .ref xs])) rfl (by rw [hml]; rfl) (Steps.refl _) (a := xs) (argsL := [.long ua]) (rest := [.ref xs]) (lenOf own_pd8 rfl) rfl (by show 2 * 0 + _ ≤ _; exact Nat.le_of_eq rfl) (hb hby at_33) (fun _ _ => ⟨rfl, e133, (by decide : 1 + 0 ≤ _), (by decide : 2 + 0 ≤ _)⟩)
  dsimp only [Pt.U, Pt.locs, Pt.cells, Pt.slots] at X140 l140 y140 z140 ls140 hQ140
  subst l140 y140 z140
  obtain ⟨rfl, Nq140, Kq140, Fq140_value, Fq140_beyond⟩ := hQ140
  have N140 := Fr.app N0 Nq140
  have f141 := A133.keep Kq140
  have z144 := Nat.le_trans z134 Kq140.1
  have k145 := Keep.trans k135 Kq140 (allS (P := fun x => x ∈ [] ∨ h0.size ≤ x) (Or.inr sz_xs) all0)
  have st146 : own_K p e below T140 m 36 #[.val (.long ua), .second, .val (.long ud), .second, iv uf, iv 1, iv x6, .unset, .unset, .unset] [.ref xs] B0 := fun t kt => st139 t (ls140.trans kt)
  have st147 : own_K p e below T140 m 38 #[.val (.long ua), .second, .val (.long ud), .second, iv uf, iv 1, iv x6, rv xs, .unset, .unset] [] B0 := fun t kt => st146 t (by
   refine XS.astore X140.here hx rfl (hb hby at_36) rfl rfl (l' := #[.val (.long ua), .second, .val (.long ud), .second, iv uf, iv 1, iv x6, rv xs, .unset, .unset]) rfl ?_
   exact kt)
  obtain ⟨T148, h148, X148, e148, E148, A148, D148, -, ls148⟩ := newO X140 hx hZ hown (own_w hw 0 rfl) (own_w hw 1 rfl) (own_w hw 2 rfl) rfl (g := (mkF m 38 #[.val (.long ua), .second, .val (.long ud), .second, iv uf, iv 1, iv x6, rv xs, .unset, .unset] [])) rfl (hb hby at_38) (by decide) (by decide)
  obtain ⟨xr, g148⟩ : ∃ z, z = T140.heap.size := ⟨_, rfl⟩
  rw [← g148] at A148 D148 ls148
  have ne_xs_xr : xs ≠ xr := Nat.ne_of_lt (Nat.lt_of_lt_of_le f141.lt (Nat.le_of_eq g148.symm))
  have g_xr : n0 ≤ xr := Nat.le_trans z144 (Nat.le_of_eq g148.symm)
  have sz_xr : h0.size ≤ xr := Nat.le_trans k145.1 (Nat.le_of_eq g148.symm)
  have f149 := f141.ext E148
  have f150 := Fq140_value.ext E148
  have f151 := Fq140_beyond.ext E148
  have z152 := Nat.le_trans z144 E148.1
  have k153 := k145.ext E148
  have f154 : Fld Z h148 xr "com/example/pactum/pactum/admission/ExactSum" "value" "J" (.long (0 : Int64)) := D148 (Or.inl (own_w hw 10 rfl)) (ty := .long) (by decide)
  have f155 : Fld Z h148 xr "com/example/pactum/pactum/admission/ExactSum" "beyond" "Ljava/math/BigInteger;" .null := D148 (Or.inl (own_w hw 20 rfl)) (ty := (.object "java/math/BigInteger")) (by decide)
  have st156 := fun t kt => st147 t (ls148 t kt)
  have st157 : own_K p e below T148 m 43 #[.val (.long ua), .second, .val (.long ud), .second, iv uf, iv 1, iv x6, rv xs, .unset, .unset] [.long ua, .ref xr, .ref xr] B0 := fun t kt => st156 t (by
   refine XS.dup X148.here hx rfl (hb hby at_41) rfl rfl ?_
   refine XS.lloadN X148.here hx rfl (hb hby at_42) rfl ?_
   exact kt)
  obtain ⟨_, _, ⟨T158, L158, k158, n158⟩, -, X158, ⟨Lc158, hQ158, l158, y158, z158⟩, ls158⟩ := X148.specialBack hx (y := (⟨"com/example/pactum/pactum/admission/ExactSum", "<init>", "(J)V"⟩ : MethodName)) rfl hown (mvT hZ (own_w hw 3 rfl)) (mvT hZ (own_w hw 4 rfl)) (mvT hZ (own_w hw 5 rfl)) (by decide) (backOf (W := 1) (rm_xj l Z a0 hw [] xr ua h148 n0 z152 A148 g_xr f154 f155) hZ (own_w hw 5 rfl) (own_w hw 2 rfl) (by decide) (by decide)) (g := (mkF m 43 #[.val (.long ua), .second, .val (.long ud), .second, iv uf, iv 1, iv x6, rv xs, .unset, .unset] [.long ua, .ref xr, .ref xr])) rfl (by rw [hml]; rfl) (Steps.refl _) (a := xr) (argsL := [.long ua]) (rest := [.ref xr]) (lenOf own_pd8 rfl) rfl (by show 2 * 0 + _ ≤ _; exact Nat.le_of_eq rfl) (hb hby at_43) (fun _ _ => ⟨rfl, e148, (by decide : 2 + 0 ≤ _), (by decide : 4 + 0 ≤ _)⟩)
  dsimp only [Pt.U, Pt.locs, Pt.cells, Pt.slots] at X158 l158 y158 z158 ls158 hQ158
  subst l158 y158 z158
  obtain ⟨rfl, Nq158, Kq158, Fq158_value, Fq158_beyond⟩ := hQ158
  have N158 := Fr.app N140 Nq158
  have f159 := f149.keep Kq158
  have f160 := f150.keep Kq158 (ninS ne_xs_xr nin0)
  have f161 := f151.keep Kq158 (ninS ne_xs_xr nin0)
  have f162 := A148.keep Kq158
  have z165 := Nat.le_trans z152 Kq158.1
  have k166 := Keep.trans k153 Kq158 (allS (P := fun x => x ∈ [] ∨ h0.size ≤ x) (Or.inr sz_xr) all0)
  have st167 : own_K p e below T158 m 46 #[.val (.long ua), .second, .val (.long ud), .second, iv uf, iv 1, iv x6, rv xs, .unset, .unset] [.ref xr] B0 := fun t kt => st157 t (ls158.trans kt)
  have hc168 : ¬ ((1 : Int32) = (0 : Int32)) := by decide
  have st169 : own_K p e below T158 m 61 #[.val (.long ua), .second, .val (.long ud), .second, iv uf, iv 1, iv x6, rv xs, rv xr, .unset] [.long (9223372036854775807 : Int64), .long (9223372036854775807 : Int64), .ref xs] B0 := fun t kt => st167 t (by
   refine XS.astore X158.here hx rfl (hb hby at_46) rfl rfl (l' := #[.val (.long ua), .second, .val (.long ud), .second, iv uf, iv 1, iv x6, rv xs, rv xr, .unset]) rfl ?_
   refine XS.iload X158.here hx rfl (hb hby at_48) rfl ?_
   refine XS.ifNo X158.here hx rfl (hb hby at_50) rfl ((if0 _ _).trans (feq hc168).1) ?_
   refine XS.aload X158.here hx rfl (hb hby at_53) rfl rfl ?_
   show own_At p e below T158 m 55 #[.val (.long ua), .second, .val (.long ud), .second, iv uf, iv 1, iv x6, rv xs, rv xr, .unset] [.ref xs] _
   refine X158.ldc2Long hx hown (mvT hZ (own_w hw 45 rfl)) (g := (mkF m 55 #[.val (.long ua), .second, .val (.long ud), .second, iv uf, iv 1, iv x6, rv xs, rv xr, .unset] [.ref xs])) rfl (hb hby at_55) _ ?_
   show own_At p e below T158 m 58 #[.val (.long ua), .second, .val (.long ud), .second, iv uf, iv 1, iv x6, rv xs, rv xr, .unset] [.long (9223372036854775807 : Int64), .ref xs] _
   refine X158.ldc2Long hx hown (mvT hZ (own_w hw 45 rfl)) (g := (mkF m 58 #[.val (.long ua), .second, .val (.long ud), .second, iv uf, iv 1, iv x6, rv xs, rv xr, .unset] [.long (9223372036854775807 : Int64), .ref xs])) rfl (hb hby at_58) _ ?_
   exact kt)
  have lt170_xs := f159.lt
  have lt170_xr := f162.lt
  obtain ⟨cq170, kq170, q170a, q170b, q170c⟩ := isOf hZ rfl f159
  obtain ⟨_, _, ⟨T170, L170, k170, n170⟩, -, X170, ⟨Lc170, hQ170, l170, y170, z170⟩, ls170⟩ := X158.virtualBack hx (y := (⟨"com/example/pactum/pactum/admission/ExactSum", "add", "(JJ)V"⟩ : MethodName)) (z := (⟨"com/example/pactum/pactum/admission/ExactSum", "add", "(JJ)V"⟩ : MethodName)) hown (mvT hZ (own_w hw 46 rfl)) (mvT hZ (own_w hw 47 rfl)) (notFace_of_selects (args := #[]) (mvT hZ (own_w hw 49 rfl))) (mvT hZ (own_w hw 49 rfl)) (mvT hZ (own_w hw 48 rfl)) (by decide) (backOf (W := 0) (rm_aJJ l Z a0 hw [] xs ua T158.heap n0 z165 f159 g_xs f160 f161 (Cs.keep0 k166)) hZ (own_w hw 50 rfl) (own_w hw 2 rfl) (by decide) (by decide)) q170a q170c (g := (mkF m 61 #[.val (.long ua), .second, .val (.long ud), .second, iv uf, iv 1, iv x6, rv xs, rv xr, .unset] [.long (9223372036854775807 : Int64), .long (9223372036854775807 : Int64), .ref xs])) rfl (by rw [hml]; rfl) (Steps.refl _) (argsL := [.long (9223372036854775807 : Int64), .long (9223372036854775807 : Int64)]) (rest := []) (lenOf own_pd14 rfl) rfl (by show 2 * 0 + _ ≤ _; exact Nat.le_of_eq rfl) (hb hby at_61) (fun _ _ => ⟨rfl, rfl, (by decide : 2 + 10 ≤ _), (by decide : 4 + 44 ≤ _)⟩)
  dsimp only [Pt.U, Pt.locs, Pt.cells, Pt.slots] at X170 l170 y170 z170 ls170 hQ170
  subst l170 y170 z170
  obtain ⟨rfl, Nq170, Kq170, Fq170_value, bq170, mq170, Fq170_beyond, Bq170, sb170, sm170⟩ := hQ170
  have N170 := Fr.app N158 Nq170
  have f171 := f159.keep Kq170
  have f174 := f162.keep Kq170
  have f175 := Fq158_value.keep Kq170 (ninS (Ne.symm ne_xs_xr) nin0)
  have f176 := Fq158_beyond.keep Kq170 (ninS (Ne.symm ne_xs_xr) nin0)
  have z177 := Nat.le_trans z165 Kq170.1
  have k178 := Keep.trans k166 Kq170 (allS (P := fun x => x ∈ [] ∨ h0.size ≤ x) (Or.inr sz_xs) all0)
  have ne_xr_bq170 : xr ≠ bq170 := Nat.ne_of_lt (Nat.lt_of_lt_of_le lt170_xr sb170)
  have sz_bq170 : h0.size ≤ bq170 := Nat.le_trans k166.1 sb170
  have ne_xr_mq170 : xr ≠ mq170 := Nat.ne_of_lt (Nat.lt_of_lt_of_le lt170_xr sm170)
  have sz_mq170 : h0.size ≤ mq170 := Nat.le_trans k166.1 sm170
  have st179 : own_K p e below T170 m 64 #[.val (.long ua), .second, .val (.long ud), .second, iv uf, iv 1, iv x6, rv xs, rv xr, .unset] [] B0 := fun t kt => st169 t (ls170.trans kt)
  obtain ⟨Ee170, Fs170, Fm170, Am170⟩ := Bq170
  have st180 : own_K p e below T170 m 72 #[.val (.long ua), .second, .val (.long ud), .second, iv uf, iv 1, iv x6, rv xs, rv xr, .unset] [.long (9223372036854775807 : Int64), .long (9223372036854775807 : Int64), .ref xr] B0 := fun t kt => st179 t (by
   refine XS.aload X170.here hx rfl (hb hby at_64) rfl rfl ?_
   show own_At p e below T170 m 66 #[.val (.long ua), .second, .val (.long ud), .second, iv uf, iv 1, iv x6, rv xs, rv xr, .unset] [.ref xr] _
   refine X170.ldc2Long hx hown (mvT hZ (own_w hw 45 rfl)) (g := (mkF m 66 #[.val (.long ua), .second, .val (.long ud), .second, iv uf, iv 1, iv x6, rv xs, rv xr, .unset] [.ref xr])) rfl (hb hby at_66) _ ?_
   show own_At p e below T170 m 69 #[.val (.long ua), .second, .val (.long ud), .second, iv uf, iv 1, iv x6, rv xs, rv xr, .unset] [.long (9223372036854775807 : Int64), .ref xr] _
   refine X170.ldc2Long hx hown (mvT hZ (own_w hw 45 rfl)) (g := (mkF m 69 #[.val (.long ua), .second, .val (.long ud), .second, iv uf, iv 1, iv x6, rv xs, rv xr, .unset] [.long (9223372036854775807 : Int64), .ref xr])) rfl (hb hby at_69) _ ?_
   exact kt)
  have lt181_xs := f171.lt
  have lt181_xr := f174.lt
  have lt181_bq170 := Ee170.lt
  have lt181_mq170 := Am170.lt
  obtain ⟨cq181, kq181, q181a, q181b, q181c⟩ := isOf hZ rfl f174
  obtain ⟨_, _, ⟨T181, L181, k181, n181⟩, -, X181, ⟨Lc181, hQ181, l181, y181, z181⟩, ls181⟩ := X170.virtualBack hx (y := (⟨"com/example/pactum/pactum/admission/ExactSum", "add", "(JJ)V"⟩ : MethodName)) (z := (⟨"com/example/pactum/pactum/admission/ExactSum", "add", "(JJ)V"⟩ : MethodName)) hown (mvT hZ (own_w hw 46 rfl)) (mvT hZ (own_w hw 47 rfl)) (notFace_of_selects (args := #[]) (mvT hZ (own_w hw 49 rfl))) (mvT hZ (own_w hw 49 rfl)) (mvT hZ (own_w hw 48 rfl)) (by decide) (backOf (W := 0) (rm_aJJ l Z a0 hw [] xr ua T170.heap n0 z177 f174 g_xr f175 f176 (Cs.keep0 k178)) hZ (own_w hw 50 rfl) (own_w hw 2 rfl) (by decide) (by decide)) q181a q181c (g := (mkF m 72 #[.val (.long ua), .second, .val (.long ud), .second, iv uf, iv 1, iv x6, rv xs, rv xr, .unset] [.long (9223372036854775807 : Int64), .long (9223372036854775807 : Int64), .ref xr])) rfl (by rw [hml]; rfl) (Steps.refl _) (argsL := [.long (9223372036854775807 : Int64), .long (9223372036854775807 : Int64)]) (rest := []) (lenOf own_pd14 rfl) rfl (by show 2 * 0 + _ ≤ _; exact Nat.le_of_eq rfl) (hb hby at_72) (fun _ _ => ⟨rfl, rfl, (by decide : 12 + 10 ≤ _), (by decide : 48 + 44 ≤ _)⟩)
  dsimp only [Pt.U, Pt.locs, Pt.cells, Pt.slots] at X181 l181 y181 z181 ls181 hQ181
  subst l181 y181 z181
  obtain ⟨rfl, Nq181, Kq181, Fq181_value, bq181, mq181, Fq181_beyond, Bq181, sb181, sm181⟩ := hQ181
  have N181 := Fr.app N170 Nq181
  have f182 := f171.keep Kq181
  have f183 := f174.keep Kq181
  have f186 := Fq170_value.keep Kq181 (ninS ne_xs_xr nin0)
  have f187 := Fq170_beyond.keep Kq181 (ninS ne_xs_xr nin0)
  have f188 := Ee170.keep Kq181
  have f189 := Fs170.keep Kq181 (ninS (Ne.symm ne_xr_bq170) nin0)
  have f190 := Fm170.keep Kq181 (ninS (Ne.symm ne_xr_bq170) nin0)
  have f191 := Am170.keep Kq181 (ninS (Ne.symm ne_xr_mq170) nin0)
  have z192 := Nat.le_trans z177 Kq181.1
  have k193 := Keep.trans k178 Kq181 (allS (P := fun x => x ∈ [] ∨ h0.size ≤ x) (Or.inr sz_xr) all0)
  have sz_bq181 : h0.size ≤ bq181 := Nat.le_trans k178.1 sb181
  have sz_mq181 : h0.size ≤ mq181 := Nat.le_trans k178.1 sm181
  have st194 : own_K p e below T181 m 75 #[.val (.long ua), .second, .val (.long ud), .second, iv uf, iv 1, iv x6, rv xs, rv xr, .unset] [] B0 := fun t kt => st180 t (ls181.trans kt)
  obtain ⟨Ee181, Fs181, Fm181, Am181⟩ := Bq181
  obtain ⟨T195, h195, X195, e195, E195, A195, D195, -, ls195⟩ := newO X181 hx hZ hown (own_w hw 0 rfl) (own_w hw 1 rfl) (own_w hw 2 rfl) rfl (g := (mkF m 75 #[.val (.long ua), .second, .val (.long ud), .second, iv uf, iv 1, iv x6, rv xs, rv xr, .unset] [])) rfl (hb hby at_75) (by decide) (by decide)
  obtain ⟨xt, g195⟩ : ∃ z, z = T181.heap.size := ⟨_, rfl⟩
  rw [← g195] at A195 D195 ls195
  have ne_xs_xt : xs ≠ xt := Nat.ne_of_lt (Nat.lt_of_lt_of_le f182.lt (Nat.le_of_eq g195.symm))
  have ne_xr_xt : xr ≠ xt := Nat.ne_of_lt (Nat.lt_of_lt_of_le f183.lt (Nat.le_of_eq g195.symm))
  have ne_bq170_xt : bq170 ≠ xt := Nat.ne_of_lt (Nat.lt_of_lt_of_le f188.lt (Nat.le_of_eq g195.symm))
  have ne_mq170_xt : mq170 ≠ xt := Nat.ne_of_lt (Nat.lt_of_lt_of_le f191.lt (Nat.le_of_eq g195.symm))
  have ne_bq181_xt : bq181 ≠ xt := Nat.ne_of_lt (Nat.lt_of_lt_of_le Ee181.lt (Nat.le_of_eq g195.symm))
  have ne_mq181_xt : mq181 ≠ xt := Nat.ne_of_lt (Nat.lt_of_lt_of_le Am181.lt (Nat.le_of_eq g195.symm))
  have g_xt : n0 ≤ xt := Nat.le_trans z192 (Nat.le_of_eq g195.symm)
  have sz_xt : h0.size ≤ xt := Nat.le_trans k193.1 (Nat.le_of_eq g195.symm)
  have f196 := f182.ext E195
  have f197 := f183.ext E195
  have f198 := f186.ext E195
  have f199 := f187.ext E195
  have f200 := f188.ext E195
  have f201 := f189.ext E195
  have f202 := f190.ext E195
  have f203 := f191.ext E195
  have f204 := Fq181_value.ext E195
  have f205 := Fq181_beyond.ext E195
  have f206 := Ee181.ext E195
  have f207 := Fs181.ext E195
  have f208 := Fm181.ext E195
  have f209 := Am181.ext E195
  have z210 := Nat.le_trans z192 E195.1
  have k211 := k193.ext E195
  have f212 : Fld Z h195 xt "com/example/pactum/pactum/admission/ExactSum" "value" "J" (.long (0 : Int64)) := D195 (Or.inl (own_w hw 10 rfl)) (ty := .long) (by decide)
  have f213 : Fld Z h195 xt "com/example/pactum/pactum/admission/ExactSum" "beyond" "Ljava/math/BigInteger;" .null := D195 (Or.inl (own_w hw 20 rfl)) (ty := (.object "java/math/BigInteger")) (by decide)
  have st214 := fun t kt => st194 t (ls195 t kt)
  have st215 : own_K p e below T195 m 79 #[.val (.long ua), .second, .val (.long ud), .second, iv uf, iv 1, iv x6, rv xs, rv xr, .unset] [.ref xt, .ref xt] B0 := fun t kt => st214 t (by
   refine XS.dup X195.here hx rfl (hb hby at_78) rfl rfl ?_
   exact kt)
  obtain ⟨_, _, ⟨T216, L216, k216, n216⟩, -, X216, ⟨Lc216, hQ216, l216, y216, z216⟩, ls216⟩ := X195.specialBack hx (y := (⟨"com/example/pactum/pactum/admission/ExactSum", "<init>", "()V"⟩ : MethodName)) rfl hown (mvT hZ (own_w hw 11 rfl)) (mvT hZ (own_w hw 12 rfl)) (mvT hZ (own_w hw 13 rfl)) (by decide) (backOf (W := 1) (rm_x0 l Z a0 hw [] xt h195 n0 z210) hZ (own_w hw 13 rfl) (own_w hw 2 rfl) (by decide) (by decide)) (g := (mkF m 79 #[.val (.long ua), .second, .val (.long ud), .second, iv uf, iv 1, iv x6, rv xs, rv xr, .unset] [.ref xt, .ref xt])) rfl (by rw [hml]; rfl) (Steps.refl _) (a := xt) (argsL := []) (rest := [.ref xt]) (lenOf own_pd0 rfl) rfl (by show 2 * 0 + _ ≤ _; exact Nat.le_of_eq rfl) (hb hby at_79) (fun _ _ => ⟨rfl, e195, (by decide : 23 + 0 ≤ _), (by decide : 94 + 0 ≤ _)⟩)
  dsimp only [Pt.U, Pt.locs, Pt.cells, Pt.slots] at X216 l216 y216 z216 ls216 hQ216
  subst l216 y216 z216
  obtain ⟨rfl, Nq216, eq216⟩ := hQ216
  have N216 := Fr.app N181 Nq216
  have st217 : own_K p e below T216 m 82 #[.val (.long ua), .second, .val (.long ud), .second, iv uf, iv 1, iv x6, rv xs, rv xr, .unset] [.ref xt] B0 := fun t kt => st215 t (ls216.trans kt)
  have st218 : own_K p e below T216 m 87 #[.val (.long ua), .second, .val (.long ud), .second, iv uf, iv 1, iv x6, rv xs, rv xr, rv xt] [.long ud, .ref xt] B0 := fun t kt => st217 t (by
   refine XS.astore X216.here hx rfl (hb hby at_82) rfl rfl (l' := #[.val (.long ua), .second, .val (.long ud), .second, iv uf, iv 1, iv x6, rv xs, rv xr, rv xt]) rfl ?_
   refine XS.aload X216.here hx rfl (hb hby at_84) rfl rfl ?_
   refine XS.lloadN X216.here hx rfl (hb hby at_86) rfl ?_
   exact kt)
  obtain ⟨cq219, kq219, q219a, q219b, q219c⟩ := isOf hZ eq216 A195
  obtain ⟨_, _, ⟨T219, L219, k219, n219⟩, -, X219, ⟨Lc219, hQ219, l219, y219, z219⟩, ls219⟩ := X216.virtualBack hx (y := (⟨"com/example/pactum/pactum/admission/ExactSum", "add", "(J)V"⟩ : MethodName)) (z := (⟨"com/example/pactum/pactum/admission/ExactSum", "add", "(J)V"⟩ : MethodName)) hown (mvT hZ (own_w hw 14 rfl)) (mvT hZ (own_w hw 15 rfl)) (notFace_of_selects (args := #[]) (mvT hZ (own_w hw 17 rfl))) (mvT hZ (own_w hw 17 rfl)) (mvT hZ (own_w hw 16 rfl)) (by decide) (backOf (W := 0) (rm_aj l Z a0 hw [] xt ud h195 n0 z210 A195 g_xt f212 f213) hZ (own_w hw 18 rfl) (own_w hw 2 rfl) (by decide) (by decide)) q219a q219c (g := (mkF m 87 #[.val (.long ua), .second, .val (.long ud), .second, iv uf, iv 1, iv x6, rv xs, rv xr, rv xt] [.long ud, .ref xt])) rfl (by rw [hml]; rfl) (Steps.refl _) (argsL := [.long ud]) (rest := []) (lenOf own_pd8 rfl) rfl (by show 2 * 0 + _ ≤ _; exact Nat.le_of_eq rfl) (hb hby at_87) (fun _ _ => ⟨rfl, eq216, (by decide : 23 + 0 ≤ _), (by decide : 94 + 0 ≤ _)⟩)
  dsimp only [Pt.U, Pt.locs, Pt.cells, Pt.slots] at X219 l219 y219 z219 ls219 hQ219
  subst l219 y219 z219
  obtain ⟨rfl, Nq219, Kq219, Fq219_value, Fq219_beyond⟩ := hQ219
  have N219 := Fr.app N216 Nq219
  have f220 := f196.keep Kq219
  have f221 := f197.keep Kq219
  have f222 := f198.keep Kq219 (ninS ne_xs_xt nin0)
  have f223 := f199.keep Kq219 (ninS ne_xs_xt nin0)
  have f224 := f200.keep Kq219
  have f225 := f201.keep Kq219 (ninS ne_bq170_xt nin0)
  have f226 := f202.keep Kq219 (ninS ne_bq170_xt nin0)
  have f227 := f203.keep Kq219 (ninS ne_mq170_xt nin0)
  have f228 := f204.keep Kq219 (ninS ne_xr_xt nin0)
  have f229 := f205.keep Kq219 (ninS ne_xr_xt nin0)
  have f230 := f206.keep Kq219
  have f231 := f207.keep Kq219 (ninS ne_bq181_xt nin0)
  have f232 := f208.keep Kq219 (ninS ne_bq181_xt nin0)
  have f233 := f209.keep Kq219 (ninS ne_mq181_xt nin0)
  have f234 := A195.keep Kq219
  have z237 := Nat.le_trans z210 Kq219.1
  have k238 := Keep.trans k211 Kq219 (allS (P := fun x => x ∈ [] ∨ h0.size ≤ x) (Or.inr sz_xt) all0)
  have st239 : own_K p e below T219 m 90 #[.val (.long ua), .second, .val (.long ud), .second, iv uf, iv 1, iv x6, rv xs, rv xr, rv xt] [] B0 := fun t kt => st218 t (ls219.trans kt)
  have st240 : own_K p e below T219 m 92 #[.val (.long ua), .second, .val (.long ud), .second, iv uf, iv 1, iv x6, rv xs, rv xr, rv xt] [.int x6] B0 := fun t kt => st239 t (by
   refine XS.iload X219.here hx rfl (hb hby at_90) rfl ?_
   exact kt)
  obtain ⟨ov, T241, L241, X241, N241, Z241, KJ, Ej_xs, Ej_xr, Ej_xt, Vj_xs, Bj_xs, Vj_xr, Bj_xr, Vj_xt, Bj_xt, IS, IR, st241⟩ : ∃ (ov : Value) (T241 : State) (L' : List Loc), Stand p l e room_1 s m #[.long ua, .long ud, .int uf] below meth c T241 L' 33 138 ∧ Fr n0 L' ∧ n0 ≤ T241.heap.size ∧ (Keep h0 T241.heap []) ∧ (Exa Z T241.heap xs "com/example/pactum/pactum/admission/ExactSum") ∧ (Exa Z T241.heap xr "com/example/pactum/pactum/admission/ExactSum") ∧ (Exa Z T241.heap xt "com/example/pactum/pactum/admission/ExactSum") ∧ (Fld Z T241.heap xs "com/example/pactum/pactum/admission/ExactSum" "value" "J" (.long ua)) ∧ (Fld Z T241.heap xs "com/example/pactum/pactum/admission/ExactSum" "beyond" "Ljava/math/BigInteger;" (.ref bq170)) ∧ (Fld Z T241.heap xr "com/example/pactum/pactum/admission/ExactSum" "value" "J" (.long ua)) ∧ (Fld Z T241.heap xr "com/example/pactum/pactum/admission/ExactSum" "beyond" "Ljava/math/BigInteger;" (.ref bq181)) ∧ (Fld Z T241.heap xt "com/example/pactum/pactum/admission/ExactSum" "value" "J" (.long ud)) ∧ (Fld Z T241.heap xt "com/example/pactum/pactum/admission/ExactSum" "beyond" "Ljava/math/BigInteger;" ov) ∧ (own_BI Z T241.heap bq170 mq170 1 4 (own_sum ua)) ∧ (own_BI Z T241.heap bq181 mq181 1 4 (own_sum ua)) ∧ own_K p e below T241 m 106 #[.val (.long ua), .second, .val (.long ud), .second, iv uf, iv 1, iv x6, rv xs, rv xr, rv xt] [] B0 := by
   by_cases q3 : x6 = (0 : Int32)
   ·have st242 : own_K p e below T219 m 106 #[.val (.long ua), .second, .val (.long ud), .second, iv uf, iv 1, iv x6, rv xs, rv xr, rv xt] [] B0 := fun t kt => st240 t (by
     refine XS.ifYes X219.here hx rfl (pc0 := 92) (pc' := 106) rfl (hb hby at_92) rfl ((if0 _ _).trans (teq q3).1) (by decide) (by decide) ?_
     exact kt)
    exact ⟨.null, _, _, X219.more (by decide) (by decide), N219, z237, k238, f220, f221, f234, f222, f223, f228, f229, Fq219_value, Fq219_beyond, ⟨f224, f225, f226, f227⟩, ⟨f230, f231, f232, f233⟩, st242⟩
   ·have st243 : own_K p e below T219 m 103 #[.val (.long ua), .second, .val (.long ud), .second, iv uf, iv 1, iv x6, rv xs, rv xr, rv xt] [.long (9223372036854775807 : Int64), .long (9223372036854775807 : Int64), .ref xt] B0 := fun t kt => st240 t (by
     refine XS.ifNo X219.here hx rfl (hb hby at_92) rfl ((if0 _ _).trans (feq q3).1) ?_
     refine XS.aload X219.here hx rfl (hb hby at_95) rfl rfl ?_
     show own_At p e below T219 m 97 #[.val (.long ua), .second, .val (.long ud), .second, iv uf, iv 1, iv x6, rv xs, rv xr, rv xt] [.ref xt] _
     refine X219.ldc2Long hx hown (mvT hZ (own_w hw 45 rfl)) (g := (mkF m 97 #[.val (.long ua), .second, .val (.long ud), .second, iv uf, iv 1, iv x6, rv xs, rv xr, rv xt] [.ref xt])) rfl (hb hby at_97) _ ?_
     show own_At p e below T219 m 100 #[.val (.long ua), .second, .val (.long ud), .second, iv uf, iv 1, iv x6, rv xs, rv xr, rv xt] [.long (9223372036854775807 : Int64), .ref xt] _
     refine X219.ldc2Long hx hown (mvT hZ (own_w hw 45 rfl)) (g := (mkF m 100 #[.val (.long ua), .second, .val (.long ud), .second, iv uf, iv 1, iv x6, rv xs, rv xr, rv xt] [.long (9223372036854775807 : Int64), .ref xt])) rfl (hb hby at_100) _ ?_
     exact kt)
    have lt244_xs := f220.lt
    have lt244_xr := f221.lt
    have lt244_bq170 := f224.lt
    have lt244_mq170 := f227.lt
    have lt244_bq181 := f230.lt
    have lt244_mq181 := f233.lt
    have lt244_xt := f234.lt
    obtain ⟨cq244, kq244, q244a, q244b, q244c⟩ := isOf hZ rfl f234
    obtain ⟨_, _, ⟨T244, L244, k244, n244⟩, -, X244, ⟨Lc244, hQ244, l244, y244, z244⟩, ls244⟩ := X219.virtualBack hx (y := (⟨"com/example/pactum/pactum/admission/ExactSum", "add", "(JJ)V"⟩ : MethodName)) (z := (⟨"com/example/pactum/pactum/admission/ExactSum", "add", "(JJ)V"⟩ : MethodName)) hown (mvT hZ (own_w hw 46 rfl)) (mvT hZ (own_w hw 47 rfl)) (notFace_of_selects (args := #[]) (mvT hZ (own_w hw 49 rfl))) (mvT hZ (own_w hw 49 rfl)) (mvT hZ (own_w hw 48 rfl)) (by decide) (backOf (W := 0) (rm_aJJ l Z a0 hw [] xt ud T219.heap n0 z237 f234 g_xt Fq219_value Fq219_beyond (Cs.keep0 k238)) hZ (own_w hw 50 rfl) (own_w hw 2 rfl) (by decide) (by decide)) q244a q244c (g := (mkF m 103 #[.val (.long ua), .second, .val (.long ud), .second, iv uf, iv 1, iv x6, rv xs, rv xr, rv xt] [.long (9223372036854775807 : Int64), .long (9223372036854775807 : Int64), .ref xt])) rfl (by rw [hml]; rfl) (Steps.refl _) (argsL := [.long (9223372036854775807 : Int64), .long (9223372036854775807 : Int64)]) (rest := []) (lenOf own_pd14 rfl) rfl (by show 2 * 0 + _ ≤ _; exact Nat.le_of_eq rfl) (hb hby at_103) (fun _ _ => ⟨rfl, rfl, (by decide : 23 + 10 ≤ _), (by decide : 94 + 44 ≤ _)⟩)
    dsimp only [Pt.U, Pt.locs, Pt.cells, Pt.slots] at X244 l244 y244 z244 ls244 hQ244
    subst l244 y244 z244
    obtain ⟨rfl, Nq244, Kq244, Fq244_value, bq244, mq244, Fq244_beyond, Bq244, sb244, sm244⟩ := hQ244
    have N244 := Fr.app N219 Nq244
    have f245 := f220.keep Kq244
    have f246 := f221.keep Kq244
    have f247 := f222.keep Kq244 (ninS ne_xs_xt nin0)
    have f248 := f223.keep Kq244 (ninS ne_xs_xt nin0)
    have f249 := f224.keep Kq244
    have f250 := f225.keep Kq244 (ninS ne_bq170_xt nin0)
    have f251 := f226.keep Kq244 (ninS ne_bq170_xt nin0)
    have f252 := f227.keep Kq244 (ninS ne_mq170_xt nin0)
    have f253 := f228.keep Kq244 (ninS ne_xr_xt nin0)
    have f254 := f229.keep Kq244 (ninS ne_xr_xt nin0)
    have f255 := f230.keep Kq244
    have f256 := f231.keep Kq244 (ninS ne_bq181_xt nin0)
    have f257 := f232.keep Kq244 (ninS ne_bq181_xt nin0)
    have f258 := f233.keep Kq244 (ninS ne_mq181_xt nin0)
    have f259 := f234.keep Kq244
    have z262 := Nat.le_trans z237 Kq244.1
    have k263 := Keep.trans k238 Kq244 (allS (P := fun x => x ∈ [] ∨ h0.size ≤ x) (Or.inr sz_xt) all0)
    have sz_bq244 : h0.size ≤ bq244 := Nat.le_trans k238.1 sb244
    have sz_mq244 : h0.size ≤ mq244 := Nat.le_trans k238.1 sm244
    have st264 : own_K p e below T244 m 106 #[.val (.long ua), .second, .val (.long ud), .second, iv uf, iv 1, iv x6, rv xs, rv xr, rv xt] [] B0 := fun t kt => st243 t (ls244.trans kt)
    obtain ⟨Ee244, Fs244, Fm244, Am244⟩ := Bq244
    exact ⟨(.ref bq244), _, _, X244.more (by decide) (by decide), N244, z262, k263, f245, f246, f259, f247, f248, f253, f254, Fq244_value, Fq244_beyond, ⟨f249, f250, f251, f252⟩, ⟨f255, f256, f257, f258⟩, st264⟩
  obtain ⟨IS1, IS2, IS3, IS4⟩ := IS
  obtain ⟨IR1, IR2, IR3, IR4⟩ := IR
  have st265 : own_K p e below T241 m 110 #[.val (.long ua), .second, .val (.long ud), .second, iv uf, iv 1, iv x6, rv xs, rv xr, rv xt] [.ref xs, .ref xt] B0 := fun t kt => st241 t (by
   refine XS.aload X241.here hx rfl (hb hby at_106) rfl rfl ?_
   refine XS.aload X241.here hx rfl (hb hby at_108) rfl rfl ?_
   exact kt)
  obtain ⟨cq266, kq266, q266a, q266b, q266c⟩ := isOf hZ rfl Ej_xt
  obtain ⟨_, _, ⟨T266, L266, k266, n266⟩, -, X266, ⟨Lc266, hQ266, l266, y266, z266⟩, ls266⟩ := X241.virtualBack hx (y := (⟨"com/example/pactum/pactum/admission/ExactSum", "set", "(Lcom/example/pactum/pactum/admission/ExactSum;)V"⟩ : MethodName)) (z := (⟨"com/example/pactum/pactum/admission/ExactSum", "set", "(Lcom/example/pactum/pactum/admission/ExactSum;)V"⟩ : MethodName)) hown (mvT hZ (own_w hw 21 rfl)) (mvT hZ (own_w hw 22 rfl)) (notFace_of_selects (args := #[]) (mvT hZ (own_w hw 24 rfl))) (mvT hZ (own_w hw 24 rfl)) (mvT hZ (own_w hw 23 rfl)) (by decide) (backOf (W := 0) (rm_sR l Z a0 hw [] xt xs ua ud ov bq170 T241.heap n0 Z241 Ej_xt g_xt Vj_xt Bj_xt Vj_xs Bj_xs ((Ne.symm ne_xs_xt))) hZ (own_w hw 25 rfl) (own_w hw 2 rfl) (by decide) (by decide)) q266a q266c (g := (mkF m 110 #[.val (.long ua), .second, .val (.long ud), .second, iv uf, iv 1, iv x6, rv xs, rv xr, rv xt] [.ref xs, .ref xt])) rfl (by rw [hml]; rfl) (Steps.refl _) (argsL := [.ref xs]) (rest := []) (lenOf own_pd15 rfl) rfl (by show 2 * 0 + _ ≤ _; exact Nat.le_of_eq rfl) (hb hby at_110) (fun _ _ => ⟨rfl, rfl, (by decide : 33 + 0 ≤ _), (by decide : 138 + 0 ≤ _)⟩)
  dsimp only [Pt.U, Pt.locs, Pt.cells, Pt.slots] at X266 l266 y266 z266 ls266 hQ266
  subst l266 y266 z266
  obtain ⟨rfl, Nq266, Kq266, Fq266_value, Fq266_beyond⟩ := hQ266
  have N266 := Fr.app N241 Nq266
  have f267 := Ej_xs.keep Kq266
  have f269 := Bj_xs.keep Kq266 (ninS ne_xs_xt nin0)
  have f270 := Ej_xr.keep Kq266
  have f272 := Bj_xr.keep Kq266 (ninS ne_xr_xt nin0)
  have f273 := Ej_xt.keep Kq266
  have f276 := IS1.keep Kq266
  have f277 := IS2.keep Kq266 (ninS ne_bq170_xt nin0)
  have f278 := IS3.keep Kq266 (ninS ne_bq170_xt nin0)
  have f279 := IS4.keep Kq266 (ninS ne_mq170_xt nin0)
  have f280 := IR1.keep Kq266
  have f281 := IR2.keep Kq266 (ninS ne_bq181_xt nin0)
  have f282 := IR3.keep Kq266 (ninS ne_bq181_xt nin0)
  have f283 := IR4.keep Kq266 (ninS ne_mq181_xt nin0)
  have z284 := Nat.le_trans Z241 Kq266.1
  have k285 := Keep.trans KJ Kq266 (allS (P := fun x => x ∈ [] ∨ h0.size ≤ x) (Or.inr sz_xt) all0)
  have st286 : own_K p e below T266 m 113 #[.val (.long ua), .second, .val (.long ud), .second, iv uf, iv 1, iv x6, rv xs, rv xr, rv xt] [] B0 := fun t kt => st265 t (ls266.trans kt)
  have st287 : own_K p e below T266 m 115 #[.val (.long ua), .second, .val (.long ud), .second, iv uf, iv 1, iv x6, rv xs, rv xr, rv xt] [.ref xt] B0 := fun t kt => st286 t (by
   refine XS.aload X266.here hx rfl (hb hby at_113) rfl rfl ?_
   exact kt)
  obtain ⟨cq288, kq288, q288a, q288b, q288c⟩ := isOf hZ rfl f273
  obtain ⟨_, _, ⟨T288, L288, k288, n288⟩, -, X288, ⟨Lc288, hQ288, l288, y288, z288⟩, ls288⟩ := X266.virtualBack hx (y := (⟨"com/example/pactum/pactum/admission/ExactSum", "fitsLong", "()Z"⟩ : MethodName)) (z := (⟨"com/example/pactum/pactum/admission/ExactSum", "fitsLong", "()Z"⟩ : MethodName)) hown (mvT hZ (own_w hw 26 rfl)) (mvT hZ (own_w hw 27 rfl)) (notFace_of_selects (args := #[]) (mvT hZ (own_w hw 29 rfl))) (mvT hZ (own_w hw 29 rfl)) (mvT hZ (own_w hw 28 rfl)) (by decide) (backOf (W := 0) (rm_fR l Z a0 hw [] xt bq170 T266.heap n0 z284 Fq266_beyond) hZ (own_w hw 30 rfl) (own_w hw 2 rfl) (by decide) (by decide)) q288a q288c (g := (mkF m 115 #[.val (.long ua), .second, .val (.long ud), .second, iv uf, iv 1, iv x6, rv xs, rv xr, rv xt] [.ref xt])) rfl (by rw [hml]; rfl) (Steps.refl _) (argsL := []) (rest := []) (lenOf own_pd16 rfl) rfl (by show 2 * 0 + _ ≤ _; exact Nat.le_of_eq rfl) (hb hby at_115) (fun _ _ => ⟨rfl, rfl, (by decide : 33 + 0 ≤ _), (by decide : 138 + 0 ≤ _)⟩)
  dsimp only [Pt.U, Pt.locs, Pt.cells, Pt.slots] at X288 l288 y288 z288 ls288 hQ288
  subst l288 y288 z288
  obtain ⟨rfl, Nq288, eq288⟩ := hQ288
  have N288 := Fr.app N266 Nq288
  have st289 : own_K p e below T288 m 118 #[.val (.long ua), .second, .val (.long ud), .second, iv uf, iv 1, iv x6, rv xs, rv xr, rv xt] [.int 0] B0 := fun t kt => st287 t (ls288.trans kt)
  have hc290 : ¬ ((1 : Int32) = (0 : Int32)) := by decide
  have hc291 : (0 : Int32) = (0 : Int32) := rfl
  have hc292 : ¬ ((1 : Int32) = (0 : Int32)) := by decide
  have st293 : own_K p e below T288 m 154 #[.val (.long ua), .second, .val (.long ud), .second, iv uf, iv 1, iv x6, rv xs, rv xr, rv xt] [.ref xr, .ref xt] B0 := fun t kt => st289 t (by
   refine XS.iload X288.here hx rfl (hb hby at_118) rfl ?_
   refine XS.ifYes X288.here hx rfl (pc0 := 120) (pc' := 127) rfl (hb hby at_120) rfl ((if0 _ _).trans (feq hc290).2) (by decide) (by decide) ?_
   refine XS.iconst X288.here hx rfl (hb hby at_127) ?_
   refine XS.icmpYes X288.here hx rfl (pc0 := 128) (pc' := 133) rfl (hb hby at_128) rfl (teq hc291).1 (by decide) (by decide) ?_
   refine XS.iload X288.here hx rfl (hb hby at_133) rfl ?_
   refine XS.ifYes X288.here hx rfl (pc0 := 135) (pc' := 150) rfl (hb hby at_135) rfl ((if0 _ _).trans (feq hc292).2) (by decide) (by decide) ?_
   refine XS.aload X288.here hx rfl (hb hby at_150) rfl rfl ?_
   refine XS.aload X288.here hx rfl (hb hby at_152) rfl rfl ?_
   exact kt)
  obtain ⟨cq294, kq294, q294a, q294b, q294c⟩ := isOf hZ eq288 f273
  obtain ⟨_, _, ⟨T294, L294, k294, n294⟩, -, X294, ⟨Lc294, hQ294, l294, y294, z294⟩, ls294⟩ := X288.virtualBack hx (y := (⟨"com/example/pactum/pactum/admission/ExactSum", "compareTo", "(Lcom/example/pactum/pactum/admission/ExactSum;)I"⟩ : MethodName)) (z := (⟨"com/example/pactum/pactum/admission/ExactSum", "compareTo", "(Lcom/example/pactum/pactum/admission/ExactSum;)I"⟩ : MethodName)) hown (mvT hZ (own_w hw 36 rfl)) (mvT hZ (own_w hw 37 rfl)) (notFace_of_selects (args := #[]) (mvT hZ (own_w hw 39 rfl))) (mvT hZ (own_w hw 39 rfl)) (mvT hZ (own_w hw 38 rfl)) (by decide) (backOf (W := 0) (rm_ctR l Z a0 hw [] xt xr bq170 bq181 mq170 mq181 ((own_sum ua)) T266.heap n0 z284 f273 Fq266_beyond f270 f272 f276 f277 f278 f279 f280 f281 f282 f283) hZ (own_w hw 40 rfl) (own_w hw 2 rfl) (by decide) (by decide)) q294a q294c (g := (mkF m 154 #[.val (.long ua), .second, .val (.long ud), .second, iv uf, iv 1, iv x6, rv xs, rv xr, rv xt] [.ref xr, .ref xt])) rfl (by rw [hml]; rfl) (Steps.refl _) (argsL := [.ref xr]) (rest := []) (lenOf own_pd18 rfl) rfl (by show 2 * 0 + _ ≤ _; exact Nat.le_of_eq rfl) (hb hby at_154) (fun _ _ => ⟨rfl, eq288, (by decide : 33 + 0 ≤ _), (by decide : 138 + 0 ≤ _)⟩)
  dsimp only [Pt.U, Pt.locs, Pt.cells, Pt.slots] at X294 l294 y294 z294 ls294 hQ294
  subst l294 y294 z294
  obtain ⟨rfl, Nq294, eq294⟩ := hQ294
  have N294 := Fr.app N288 Nq294
  have st295 : own_K p e below T294 m 157 #[.val (.long ua), .second, .val (.long ud), .second, iv uf, iv 1, iv x6, rv xs, rv xr, rv xt] [.int 0] B0 := fun t kt => st293 t (ls294.trans kt)
  have hc296 : (0 : Int32) = (0 : Int32) := rfl
  have st297 : own_K p e below T294 m 166 #[.val (.long ua), .second, .val (.long ud), .second, iv uf, iv 1, iv x6, rv xs, rv xr, rv xt] [.ref xr, .ref xs] B0 := fun t kt => st295 t (by
   refine XS.ifYes X294.here hx rfl (pc0 := 157) (pc' := 162) rfl (hb hby at_157) rfl ((if0 _ _).trans (teq hc296).1) (by decide) (by decide) ?_
   refine XS.aload X294.here hx rfl (hb hby at_162) rfl rfl ?_
   refine XS.aload X294.here hx rfl (hb hby at_164) rfl rfl ?_
   exact kt)
  obtain ⟨cq298, kq298, q298a, q298b, q298c⟩ := isOf hZ eq294 f267
  obtain ⟨_, _, ⟨T298, L298, k298, n298⟩, -, X298, ⟨Lc298, hQ298, l298, y298, z298⟩, ls298⟩ := X294.virtualBack hx (y := (⟨"com/example/pactum/pactum/admission/ExactSum", "compareTo", "(Lcom/example/pactum/pactum/admission/ExactSum;)I"⟩ : MethodName)) (z := (⟨"com/example/pactum/pactum/admission/ExactSum", "compareTo", "(Lcom/example/pactum/pactum/admission/ExactSum;)I"⟩ : MethodName)) hown (mvT hZ (own_w hw 36 rfl)) (mvT hZ (own_w hw 37 rfl)) (notFace_of_selects (args := #[]) (mvT hZ (own_w hw 39 rfl))) (mvT hZ (own_w hw 39 rfl)) (mvT hZ (own_w hw 38 rfl)) (by decide) (backOf (W := 0) (rm_ctR l Z a0 hw [] xs xr bq170 bq181 mq170 mq181 ((own_sum ua)) T266.heap n0 z284 f267 f269 f270 f272 f276 f277 f278 f279 f280 f281 f282 f283) hZ (own_w hw 40 rfl) (own_w hw 2 rfl) (by decide) (by decide)) q298a q298c (g := (mkF m 166 #[.val (.long ua), .second, .val (.long ud), .second, iv uf, iv 1, iv x6, rv xs, rv xr, rv xt] [.ref xr, .ref xs])) rfl (by rw [hml]; rfl) (Steps.refl _) (argsL := [.ref xr]) (rest := []) (lenOf own_pd18 rfl) rfl (by show 2 * 0 + _ ≤ _; exact Nat.le_of_eq rfl) (hb hby at_166) (fun _ _ => ⟨rfl, eq294, (by decide : 33 + 0 ≤ _), (by decide : 138 + 0 ≤ _)⟩)
  dsimp only [Pt.U, Pt.locs, Pt.cells, Pt.slots] at X298 l298 y298 z298 ls298 hQ298
  subst l298 y298 z298
  obtain ⟨rfl, Nq298, eq298⟩ := hQ298
  have N298 := Fr.app N294 Nq298
  have st299 : own_K p e below T298 m 169 #[.val (.long ua), .second, .val (.long ud), .second, iv uf, iv 1, iv x6, rv xs, rv xr, rv xt] [.int 0] B0 := fun t kt => st297 t (ls298.trans kt)
  have hc300 : (0 : Int32) = (0 : Int32) := rfl
  have st301 : own_K p e below T298 m 176 #[.val (.long ua), .second, .val (.long ud), .second, iv uf, iv 1, iv x6, rv xs, rv xr, rv xt] [.ref xs] B0 := fun t kt => st299 t (by
   refine XS.ifYes X298.here hx rfl (pc0 := 169) (pc' := 174) rfl (hb hby at_169) rfl ((if0 _ _).trans (teq hc300).1) (by decide) (by decide) ?_
   refine XS.aload X298.here hx rfl (hb hby at_174) rfl rfl ?_
   exact kt)
  obtain ⟨cq302, kq302, q302a, q302b, q302c⟩ := isOf hZ eq298 f267
  obtain ⟨_, _, ⟨T302, L302, k302, n302⟩, -, X302, ⟨Lc302, hQ302, l302, y302, z302⟩, ls302⟩ := X298.virtualBack hx (y := (⟨"com/example/pactum/pactum/admission/ExactSum", "fitsLong", "()Z"⟩ : MethodName)) (z := (⟨"com/example/pactum/pactum/admission/ExactSum", "fitsLong", "()Z"⟩ : MethodName)) hown (mvT hZ (own_w hw 26 rfl)) (mvT hZ (own_w hw 27 rfl)) (notFace_of_selects (args := #[]) (mvT hZ (own_w hw 29 rfl))) (mvT hZ (own_w hw 29 rfl)) (mvT hZ (own_w hw 28 rfl)) (by decide) (backOf (W := 0) (rm_fR l Z a0 hw [] xs bq170 T266.heap n0 z284 f269) hZ (own_w hw 30 rfl) (own_w hw 2 rfl) (by decide) (by decide)) q302a q302c (g := (mkF m 176 #[.val (.long ua), .second, .val (.long ud), .second, iv uf, iv 1, iv x6, rv xs, rv xr, rv xt] [.ref xs])) rfl (by rw [hml]; rfl) (Steps.refl _) (argsL := []) (rest := []) (lenOf own_pd16 rfl) rfl (by show 2 * 0 + _ ≤ _; exact Nat.le_of_eq rfl) (hb hby at_176) (fun _ _ => ⟨rfl, eq298, (by decide : 33 + 0 ≤ _), (by decide : 138 + 0 ≤ _)⟩)
  dsimp only [Pt.U, Pt.locs, Pt.cells, Pt.slots] at X302 l302 y302 z302 ls302 hQ302
  subst l302 y302 z302
  obtain ⟨rfl, Nq302, eq302⟩ := hQ302
  have N302 := Fr.app N298 Nq302
  have st303 : own_K p e below T302 m 179 #[.val (.long ua), .second, .val (.long ud), .second, iv uf, iv 1, iv x6, rv xs, rv xr, rv xt] [.int 0] B0 := fun t kt => st301 t (ls302.trans kt)
  have hc304 : ¬ ((1 : Int32) = (0 : Int32)) := by decide
  have hc305 : (0 : Int32) = (0 : Int32) := rfl
  have st306 : own_K p e below T302 m 197 #[.val (.long ua), .second, .val (.long ud), .second, iv uf, iv 1, iv x6, rv xs, rv xr, rv xt] [.int 1] B0 := fun t kt => st303 t (by
   refine XS.iload X302.here hx rfl (hb hby at_179) rfl ?_
   refine XS.ifYes X302.here hx rfl (pc0 := 181) (pc' := 188) rfl (hb hby at_181) rfl ((if0 _ _).trans (feq hc304).2) (by decide) (by decide) ?_
   refine XS.iconst X302.here hx rfl (hb hby at_188) ?_
   refine XS.icmpNo X302.here hx rfl (hb hby at_189) rfl (teq hc305).2 ?_
   refine XS.iconst X302.here hx rfl (hb hby at_192) ?_
   refine XS.goto X302.here hx rfl (pc0 := 193) (pc' := 197) rfl (hb hby at_193) (by decide) (by decide) ?_
   exact kt)
  obtain ⟨fs, hr, hrun, hended, hW, hsame⟩ := X302.leave (v := (some (.int 1))) (fun h => by rw [Bd.returns] at h; cases h)
  subst hB0
  refine ⟨_, _, st306 _ ?_, hrun, hended, _, _, rfl, ?_, ⟨_, rfl⟩, hW, hsame.mono (by decide) (by decide)⟩
  ·exact retN X302 hx (t := .boolean) Bd.returns (by simp) (hb hby at_197) hr
  ·show Q_rm_law Z ua ud uf h0 n0 _ T302.heap _
   rw [eq302]
   exact ⟨rfl, N302⟩
theorem own_csS {s : State} {args : Array Value} (hsets : ∀ d ∈ jdkStatics_1, d.before args s = true) : own_Cs s s.heap := by
 have hS : ∀ (i : Nat) {d : Jvm.Cond}, jdkStatics_1[i]? = some d → d.before args s = true := fun i d h => hsets d (List.mem_of_getElem? h)
 refine ⟨own_zS (hS 111 rfl) (hS 112 rfl) (hS 113 rfl) (hS 114 rfl) (hS 116 rfl), own_ccS (hS 1 rfl) (hS 8 rfl) (hS 10 rfl) ?_, own_ccS (hS 118 rfl) (hS 121 rfl) (hS 123 rfl) ?_⟩
 ·intro q h1 h2
  rcases (show q = 1 ∨ q = 2 ∨ q = 3 ∨ q = 4 ∨ q = 5 ∨ q = 6 ∨ q = 7 ∨ q = 8 ∨ q = 9 ∨ q = 10 ∨ q = 11 ∨ q = 12 ∨ q = 13 ∨ q = 14 ∨ q = 15 ∨ q = 16 by omega) with rfl | rfl | rfl | rfl | rfl | rfl | rfl | rfl | rfl | rfl | rfl | rfl | rfl | rfl | rfl | rfl
  ·exact ⟨(hS 12 rfl), (hS 13 rfl), (hS 14 rfl), (hS 16 rfl), (hS 17 rfl)⟩
  ·exact ⟨(hS 19 rfl), (hS 20 rfl), (hS 21 rfl), (hS 23 rfl), (hS 24 rfl)⟩
  ·exact ⟨(hS 25 rfl), (hS 26 rfl), (hS 27 rfl), (hS 29 rfl), (hS 30 rfl)⟩
  ·exact ⟨(hS 31 rfl), (hS 32 rfl), (hS 33 rfl), (hS 35 rfl), (hS 36 rfl)⟩
  ·exact ⟨(hS 37 rfl), (hS 38 rfl), (hS 39 rfl), (hS 41 rfl), (hS 42 rfl)⟩
  ·exact ⟨(hS 43 rfl), (hS 44 rfl), (hS 45 rfl), (hS 47 rfl), (hS 48 rfl)⟩
  ·exact ⟨(hS 49 rfl), (hS 50 rfl), (hS 51 rfl), (hS 53 rfl), (hS 54 rfl)⟩
  ·exact ⟨(hS 55 rfl), (hS 56 rfl), (hS 57 rfl), (hS 59 rfl), (hS 60 rfl)⟩
  ·exact ⟨(hS 61 rfl), (hS 62 rfl), (hS 63 rfl), (hS 65 rfl), (hS 66 rfl)⟩
  ·exact ⟨(hS 68 rfl), (hS 69 rfl), (hS 70 rfl), (hS 72 rfl), (hS 73 rfl)⟩
  ·exact ⟨(hS 74 rfl), (hS 75 rfl), (hS 76 rfl), (hS 78 rfl), (hS 79 rfl)⟩
  ·exact ⟨(hS 80 rfl), (hS 81 rfl), (hS 82 rfl), (hS 84 rfl), (hS 85 rfl)⟩
  ·exact ⟨(hS 86 rfl), (hS 87 rfl), (hS 88 rfl), (hS 90 rfl), (hS 91 rfl)⟩
  ·exact ⟨(hS 92 rfl), (hS 93 rfl), (hS 94 rfl), (hS 96 rfl), (hS 97 rfl)⟩
  ·exact ⟨(hS 98 rfl), (hS 99 rfl), (hS 100 rfl), (hS 102 rfl), (hS 103 rfl)⟩
  ·exact ⟨(hS 104 rfl), (hS 105 rfl), (hS 106 rfl), (hS 108 rfl), (hS 109 rfl)⟩
 ·intro q h1 h2
  rcases (show q = 1 ∨ q = 2 ∨ q = 3 ∨ q = 4 ∨ q = 5 ∨ q = 6 ∨ q = 7 ∨ q = 8 ∨ q = 9 ∨ q = 10 ∨ q = 11 ∨ q = 12 ∨ q = 13 ∨ q = 14 ∨ q = 15 ∨ q = 16 by omega) with rfl | rfl | rfl | rfl | rfl | rfl | rfl | rfl | rfl | rfl | rfl | rfl | rfl | rfl | rfl | rfl
  ·exact ⟨(hS 125 rfl), (hS 126 rfl), (hS 127 rfl), (hS 129 rfl), (hS 130 rfl)⟩
  ·exact ⟨(hS 131 rfl), (hS 132 rfl), (hS 133 rfl), (hS 135 rfl), (hS 136 rfl)⟩
  ·exact ⟨(hS 137 rfl), (hS 138 rfl), (hS 139 rfl), (hS 141 rfl), (hS 142 rfl)⟩
  ·exact ⟨(hS 143 rfl), (hS 144 rfl), (hS 145 rfl), (hS 147 rfl), (hS 148 rfl)⟩
  ·exact ⟨(hS 149 rfl), (hS 150 rfl), (hS 151 rfl), (hS 153 rfl), (hS 154 rfl)⟩
  ·exact ⟨(hS 155 rfl), (hS 156 rfl), (hS 157 rfl), (hS 159 rfl), (hS 160 rfl)⟩
  ·exact ⟨(hS 161 rfl), (hS 162 rfl), (hS 163 rfl), (hS 165 rfl), (hS 166 rfl)⟩
  ·exact ⟨(hS 167 rfl), (hS 168 rfl), (hS 169 rfl), (hS 171 rfl), (hS 172 rfl)⟩
  ·exact ⟨(hS 173 rfl), (hS 174 rfl), (hS 175 rfl), (hS 177 rfl), (hS 178 rfl)⟩
  ·exact ⟨(hS 179 rfl), (hS 180 rfl), (hS 181 rfl), (hS 183 rfl), (hS 184 rfl)⟩
  ·exact ⟨(hS 185 rfl), (hS 186 rfl), (hS 187 rfl), (hS 189 rfl), (hS 190 rfl)⟩
  ·exact ⟨(hS 191 rfl), (hS 192 rfl), (hS 193 rfl), (hS 195 rfl), (hS 196 rfl)⟩
  ·exact ⟨(hS 197 rfl), (hS 198 rfl), (hS 199 rfl), (hS 201 rfl), (hS 202 rfl)⟩
  ·exact ⟨(hS 203 rfl), (hS 204 rfl), (hS 205 rfl), (hS 207 rfl), (hS 208 rfl)⟩
  ·exact ⟨(hS 209 rfl), (hS 210 rfl), (hS 211 rfl), (hS 213 rfl), (hS 214 rfl)⟩
  ·exact ⟨(hS 215 rfl), (hS 216 rfl), (hS 217 rfl), (hS 219 rfl), (hS 220 rfl)⟩
set_option maxRecDepth 65536 in
set_option maxHeartbeats 40000000 in
theorem comes_1 {Post : Tables → Env → Array Value → State → Outcome → State → Prop} (hpost : ∀ tb e args s v u, (limb_1_1.after args s (.returned v) u = true ∧ limb_1_2.after args s (.returned v) u = true ∧ True) → FrameEnd s (.returned v) u (Jvm.fieldLocs frame_1_writes args s ++ Jvm.arrayLocs frame_1_arrays args s ++ Jvm.staticLocs frame_1_statics s) 80 384 → Post tb e args s (.returned v) u) :
  ArmFor flags0 classFile x code maxLocals ret World_1 tables_1 room_1 Calls_1 rest_1 Pre_1 Post := by
 intro l hfl _ _ p e ha hc hk s m args below hf hA hF happ hP
 obtain ⟨hcalls, hrest, hpre⟩ := hP
 obtain ⟨-, -, -, hnamed, -, -, -, hat⟩ := (Spec.applies_iff hf).mp happ
 obtain ⟨hg, hn⟩ := and_e (Cond.before_iff.mp (show (Jvm.Cond.and given_1 narrow_1).before args s = true from hpre))
 obtain ⟨gg1, gg2⟩ := and_e hg
 obtain ⟨gg3, gg4⟩ := and_e gg2
 obtain ⟨gg5, gg6⟩ := and_e gg4
 obtain ⟨w0, w1, w2, rfl⟩ : ∃ w0 w1 w2 : Value, args = #[w0, w1, w2] := by
  have hs : args.size = 3 := by simpa [Cond.value, given_1] using gg1
  obtain ⟨L⟩ := args
  match L, hs with
  | [w0, w1, w2], _ => exact ⟨w0, w1, w2, rfl⟩
 have hw := fun d (hd : d ∈ tables_1) => atoms_spec (ws := Jvm.Cond.code x code maxLocals ret :: tables_1) hat d (List.mem_cons_of_mem _ hd)
 have hfit : Fit s := fun {y c} hc i hi => by
  obtain ⟨ha, rfl⟩ := Array.getElem?_eq_some_iff.mp hc
  have q := List.all_eq_true.mp ((Array.all_eq_true_iff_forall_mem.mp hF) _ (Array.getElem_mem ha)) i (List.mem_range.mpr hi)
  simpa [Array.getElem?_eq_getElem hi] using q
 obtain ⟨hsets, hown0⟩ := atoms_of _ (rest_1_c_eq ▸ (show rest_1_c.before _ s = true from hrest))
 have hr0 := Cond.before_iff.mp hown0
 obtain ⟨i0, ei0⟩ := isL_v gg3
 obtain rfl : w0 = (.long i0) := Option.some.inj ei0
 obtain ⟨i1, ei1⟩ := isL_v gg5
 obtain rfl : w1 = (.long i1) := Option.some.inj ei1
 obtain ⟨i2, ei2⟩ := is_v gg6
 obtain rfl : w2 = (.int i2) := Option.some.inj ei2
 obtain ⟨n, o, h1, h2, h3, _, L, rfl, ⟨rfl, N⟩, hq⟩ := rm_law l s _ hw tables_1 i0 i1 i2  s.heap s.heap.size (Nat.le_refl _) (own_csS hsets) p e ha hc hk s m _ below hf ((Spec.applies_iff_loose hf).mp happ).1 ⟨rfl, State.Warmed39.refl s, rfl⟩ trivial
 refine ⟨n, _, h1, h2, h3, hpost _ _ _ _ _ _ ⟨Cond.after_iff.mpr rfl, Cond.after_iff.mpr (eq_i res_at (Term.int_eval (1)) rfl), trivial⟩ ⟨hq.1, hq.2.1, (hq.2.2.sift fun y hy => Or.inr (N y hy)).mono (by decide) (by decide)⟩⟩
theorem main_1_1 : Claimed_1_1 := comes_1 fun _ _ _ _ _ _ h hF => ⟨h.1, hF⟩
theorem main_1_2 : Claimed_1_2 := comes_1 fun _ _ _ _ _ _ h hF => ⟨h.2.1, hF⟩
end Jvm.Pilot.@@N@@
namespace Jvm.Pilot.@@N@@
open Jvm Jvm.ClassFile Sem Op Lib Jvm.Free Jvm.Stand Jvm.Pilot.@@N@@.Jvm.D
/-! MADE BY PROGRAM (witnessworld.py) out of the Statement's table words and the real class files: 18 classes; the members and pool entries that the words name. The judged class is class 1, her method 1. -/
namespace start1
open Jvm.ClassFile
def u (s : String) : CpInfo := .utf8 (stringToUtf16 s)
/-- a pool by its gaps: so many unusable entries, then the entry; so many at the end -/
def gap : Nat → List CpInfo → List CpInfo
  | 0, r => r
  | n + 1, r => .unusable :: gap n r
def poolList (es : List (Nat × CpInfo)) (last : Nat) : List CpInfo := es.foldr (fun e r => gap e.1 (e.2 :: r)) (gap last [])
def pool (es : List (Nat × CpInfo)) (last : Nat) : Array CpInfo := ⟨poolList es last⟩
def fileOf (pool : Array CpInfo) (this : Nat) (attrs : Array Attribute := #[]) (ms : Array MethodInfo := #[]) (fl : Nat := 33) (sup : Nat := 0) (ifs : Array Nat := #[]) (fds : Array FieldInfo := #[]) : ClassFile where
  minorVersion := 0
  majorVersion := 65
  constantPool := pool
  accessFlags := fl
  thisClass := this
  superClass := sup
  interfaces := ifs
  fields := fds
  methods := ms
  attributes := attrs
def plain (name : String) (sup : Option ClassId) : Class where
  name := name
  kind := .ordinary
  loader := none
  accessFlags := 33
  super := sup
  interfaces := #[]
  cf := none
  fields := #[]
  methods := #[]
  instanceTypes := #[]
  staticTypes := #[]
  resolved := #[]
  callSites := []
  init := .initialized
  statics := none
  mirror := none

def pool0 : Array CpInfo := pool [(5, u "<init>"), (0, u "()V"), (1, .class_ 10), (1, u "java/lang/Object")] 113

def k0c0 : Code := { maxStack := 0, maxLocals := 1, code := object_method_1_code, exceptionTable := #[], attributes := #[] }
def k0m0 : Method := { name := "<init>", desc := "()V", sig := { parameters := [], returnType := none }, accessFlags := 1, code := some k0c0 }
/-- java/lang/Object -/
def k0 : Class := { plain "java/lang/Object" none with
  accessFlags := 33
  interfaces := #[]
  cf := some (fileOf pool0 8 #[] #[{ accessFlags := 1, nameIndex := 5, descriptorIndex := 6, attributes := #[] }] 33 0 #[] #[])
  fields := #[]
  methods := #[k0m0]
  instanceTypes := #[]
  staticTypes := #[]
  resolved := Array.replicate 124 none
  statics := none }

def pool1 : Array CpInfo := pool [(2, .class_ 4), (0, .nameAndType 5 6), (0, u "java/lang/Object"), (0, u "<init>"), (0, u "()V"), (0, .class_ 8), (0, u "com/example/pactum/pactum/admission/ExactSum"), (0, .methodref 7 10), (0, .nameAndType 5 11), (0, u "(J)V"), (2, .long 9223372036854775807), (1, .methodref 7 17), (0, .nameAndType 18 19), (0, u "add"), (0, u "(JJ)V"), (0, .methodref 7 3), (0, .methodref 7 22), (0, .nameAndType 18 11), (0, .methodref 7 24), (0, .nameAndType 25 26), (0, u "set"), (0, u "(Lcom/example/pactum/pactum/admission/ExactSum;)V"), (0, .methodref 7 28), (0, .nameAndType 29 30), (0, u "fitsLong"), (0, u "()Z"), (0, .methodref 7 32), (0, .nameAndType 33 34), (0, u "longValue"), (0, u "()J"), (0, .methodref 7 36), (0, .nameAndType 37 38), (0, u "compareTo"), (0, u "(Lcom/example/pactum/pactum/admission/ExactSum;)I"), (0, .class_ 40), (0, u "com/example/pactum/pactum/admission/ExactSumSetPinLaw"), (2, u "law"), (0, u "(JJI)Z")] 3

def k1m0 : Method := { name := "<init>", desc := "()V", sig := { parameters := [], returnType := none }, accessFlags := 1, code := none }
def k1c1 : Code := { maxStack := 5, maxLocals := 10, code := code, exceptionTable := #[], attributes := #[] }
def k1m1 : Method := { name := "law", desc := "(JJI)Z", sig := { parameters := [.long, .long, .int], returnType := some .boolean }, accessFlags := 9, code := some k1c1 }
/-- com/example/pactum/pactum/admission/ExactSumSetPinLaw -/
def k1 : Class := { plain "com/example/pactum/pactum/admission/ExactSumSetPinLaw" (some 0) with
  accessFlags := 49
  interfaces := #[]
  cf := some (fileOf pool1 39 #[] #[{ accessFlags := 1, nameIndex := 5, descriptorIndex := 6, attributes := #[] }, { accessFlags := 9, nameIndex := 43, descriptorIndex := 44, attributes := #[] }] 49 2 #[] #[])
  fields := #[]
  methods := #[k1m0, k1m1]
  instanceTypes := #[]
  staticTypes := #[]
  resolved := Array.replicate 48 none
  statics := none }

def pool2 : Array CpInfo := pool [(1, .methodref 2 3), (0, .class_ 4), (0, .nameAndType 5 6), (0, u "java/lang/Object"), (0, u "<init>"), (0, u "()V"), (0, .fieldref 8 9), (0, .class_ 10), (0, .nameAndType 11 12), (0, u "com/example/pactum/pactum/admission/ExactSum"), (0, u "value"), (0, u "J"), (0, .fieldref 8 14), (0, .nameAndType 15 16), (0, u "beyond"), (0, u "Ljava/math/BigInteger;"), (0, .methodref 18 19), (0, .class_ 20), (0, .nameAndType 21 22), (0, u "java/math/BigInteger"), (0, u "valueOf"), (0, u "(J)Ljava/math/BigInteger;"), (1, .class_ 26), (1, u "java/lang/Long"), (5, .methodref 24 33), (0, .nameAndType 34 35), (0, u "compare"), (0, u "(JJ)I"), (0, .methodref 8 37), (0, .nameAndType 11 38), (0, u "()Ljava/math/BigInteger;"), (0, .methodref 18 40), (0, .nameAndType 41 42), (0, u "compareTo"), (0, u "(Ljava/math/BigInteger;)I"), (0, .methodref 18 44), (0, .nameAndType 45 46), (0, u "add"), (0, u "(Ljava/math/BigInteger;)Ljava/math/BigInteger;"), (0, .methodref 48 49), (0, .class_ 50), (0, .nameAndType 51 52), (0, u "java/lang/Math"), (0, u "multiplyHigh"), (0, u "(JJ)J"), (0, .methodref 8 54), (0, .nameAndType 45 55), (0, u "(J)V"), (0, .methodref 18 57), (0, .nameAndType 58 46), (0, u "multiply"), (2, u "(JJ)V"), (3, u "set"), (0, u "(Lcom/example/pactum/pactum/admission/ExactSum;)V"), (0, u "fitsLong"), (0, u "()Z"), (1, u "longValue"), (0, u "()J"), (0, u "(Lcom/example/pactum/pactum/admission/ExactSum;)I")] 3

def k2c0 : Code := { maxStack := 1, maxLocals := 1, code := prog_25_method_1_code, exceptionTable := #[], attributes := #[] }
def k2m0 : Method := { name := "<init>", desc := "()V", sig := { parameters := [], returnType := none }, accessFlags := 1, code := some k2c0 }
def k2c1 : Code := { maxStack := 3, maxLocals := 3, code := prog_25_method_2_code, exceptionTable := #[], attributes := #[] }
def k2m1 : Method := { name := "<init>", desc := "(J)V", sig := { parameters := [.long], returnType := none }, accessFlags := 1, code := some k2c1 }
def k2c2 : Code := { maxStack := 3, maxLocals := 2, code := prog_25_method_4_code, exceptionTable := #[], attributes := #[] }
def k2m2 : Method := { name := "set", desc := "(Lcom/example/pactum/pactum/admission/ExactSum;)V", sig := { parameters := [(.object "com/example/pactum/pactum/admission/ExactSum")], returnType := none }, accessFlags := 0, code := some k2c2 }
def k2c3 : Code := { maxStack := 1, maxLocals := 1, code := prog_25_method_5_code, exceptionTable := #[], attributes := #[] }
def k2m3 : Method := { name := "fitsLong", desc := "()Z", sig := { parameters := [], returnType := some .boolean }, accessFlags := 0, code := some k2c3 }
def k2c4 : Code := { maxStack := 2, maxLocals := 1, code := prog_25_method_6_code, exceptionTable := #[], attributes := #[] }
def k2m4 : Method := { name := "longValue", desc := "()J", sig := { parameters := [], returnType := some .long }, accessFlags := 0, code := some k2c4 }
def k2c5 : Code := { maxStack := 2, maxLocals := 1, code := prog_25_method_7_code, exceptionTable := #[], attributes := #[] }
def k2m5 : Method := { name := "value", desc := "()Ljava/math/BigInteger;", sig := { parameters := [], returnType := some (.object "java/math/BigInteger") }, accessFlags := 1, code := some k2c5 }
def k2c6 : Code := { maxStack := 4, maxLocals := 2, code := prog_25_method_9_code, exceptionTable := #[], attributes := #[] }
def k2m6 : Method := { name := "compareTo", desc := "(Lcom/example/pactum/pactum/admission/ExactSum;)I", sig := { parameters := [(.object "com/example/pactum/pactum/admission/ExactSum")], returnType := some .int }, accessFlags := 1, code := some k2c6 }
def k2c7 : Code := { maxStack := 6, maxLocals := 5, code := prog_25_method_10_code, exceptionTable := #[], attributes := #[] }
def k2m7 : Method := { name := "add", desc := "(J)V", sig := { parameters := [.long], returnType := none }, accessFlags := 1, code := some k2c7 }
def k2c8 : Code := { maxStack := 5, maxLocals := 9, code := prog_25_method_11_code, exceptionTable := #[], attributes := #[] }
def k2m8 : Method := { name := "add", desc := "(JJ)V", sig := { parameters := [.long, .long], returnType := none }, accessFlags := 1, code := some k2c8 }
/-- com/example/pactum/pactum/admission/ExactSum -/
def k2 : Class := { plain "com/example/pactum/pactum/admission/ExactSum" (some 0) with
  accessFlags := 49
  interfaces := #[]
  cf := some (fileOf pool2 8 #[] #[{ accessFlags := 1, nameIndex := 5, descriptorIndex := 6, attributes := #[] }, { accessFlags := 1, nameIndex := 5, descriptorIndex := 55, attributes := #[] }, { accessFlags := 0, nameIndex := 65, descriptorIndex := 66, attributes := #[] }, { accessFlags := 0, nameIndex := 67, descriptorIndex := 68, attributes := #[] }, { accessFlags := 0, nameIndex := 70, descriptorIndex := 71, attributes := #[] }, { accessFlags := 1, nameIndex := 11, descriptorIndex := 38, attributes := #[] }, { accessFlags := 1, nameIndex := 41, descriptorIndex := 72, attributes := #[] }, { accessFlags := 1, nameIndex := 45, descriptorIndex := 55, attributes := #[] }, { accessFlags := 1, nameIndex := 45, descriptorIndex := 61, attributes := #[] }] 49 2 #[] #[{ accessFlags := 2, nameIndex := 11, descriptorIndex := 12, attributes := #[] }, { accessFlags := 2, nameIndex := 15, descriptorIndex := 16, attributes := #[] }])
  fields := #[{ name := "value", type := .long, accessFlags := 2, slot := 0, constantValue := 0 }, { name := "beyond", type := (.object "java/math/BigInteger"), accessFlags := 2, slot := 1, constantValue := 0 }]
  methods := #[k2m0, k2m1, k2m2, k2m3, k2m4, k2m5, k2m6, k2m7, k2m8]
  instanceTypes := #[.long, (.object "java/math/BigInteger")]
  staticTypes := #[]
  resolved := Array.replicate 76 none
  statics := none }

def pool3 : Array CpInfo := pool [(1, .class_ 2), (0, u "java/io/Serializable"), (0, .class_ 4), (0, u "java/lang/Object")] 2

/-- java/io/Serializable -/
def k3 : Class := { plain "java/io/Serializable" (some 0) with
  accessFlags := 1537
  interfaces := #[]
  cf := some (fileOf pool3 1 #[] #[] 1537 3 #[] #[])
  fields := #[]
  methods := #[]
  instanceTypes := #[]
  staticTypes := #[]
  resolved := Array.replicate 7 none
  statics := none }

def pool4 : Array CpInfo := pool [(1, .methodref 2 3), (0, .class_ 4), (0, .nameAndType 5 6), (0, u "java/lang/Object"), (0, u "<init>"), (0, u "()V"), (1, .class_ 10), (1, u "java/lang/Number"), (2, .class_ 14), (0, u "java/io/Serializable"), (0, u "serialVersionUID"), (0, u "J")] 20

def k4c0 : Code := { maxStack := 1, maxLocals := 1, code := jdk_18_method_1_code, exceptionTable := #[], attributes := #[] }
def k4m0 : Method := { name := "<init>", desc := "()V", sig := { parameters := [], returnType := none }, accessFlags := 1, code := some k4c0 }
/-- java/lang/Number -/
def k4 : Class := { plain "java/lang/Number" (some 0) with
  accessFlags := 1057
  interfaces := #[3]
  cf := some (fileOf pool4 8 #[] #[{ accessFlags := 1, nameIndex := 5, descriptorIndex := 6, attributes := #[] }] 1057 2 #[13] #[{ accessFlags := 26, nameIndex := 15, descriptorIndex := 16, attributes := #[] }])
  fields := #[{ name := "serialVersionUID", type := .long, accessFlags := 26, slot := 0, constantValue := 0 }]
  methods := #[k4m0]
  instanceTypes := #[]
  staticTypes := #[.long]
  resolved := Array.replicate 37 none
  statics := none }

def pool5 : Array CpInfo := pool [(1, .class_ 2), (0, u "java/lang/Comparable"), (0, .class_ 4), (0, u "java/lang/Object")] 7

/-- java/lang/Comparable -/
def k5 : Class := { plain "java/lang/Comparable" (some 0) with
  accessFlags := 1537
  interfaces := #[]
  cf := some (fileOf pool5 1 #[] #[] 1537 3 #[] #[])
  fields := #[]
  methods := #[]
  instanceTypes := #[]
  staticTypes := #[]
  resolved := Array.replicate 12 none
  statics := none }

def pool6 : Array CpInfo := pool [(1, .class_ 2), (0, u "java/lang/constant/Constable"), (0, .class_ 4), (0, u "java/lang/Object")] 6

/-- java/lang/constant/Constable -/
def k6 : Class := { plain "java/lang/constant/Constable" (some 0) with
  accessFlags := 1537
  interfaces := #[]
  cf := some (fileOf pool6 1 #[] #[] 1537 3 #[] #[])
  fields := #[]
  methods := #[]
  instanceTypes := #[]
  staticTypes := #[]
  resolved := Array.replicate 11 none
  statics := none }

def pool7 : Array CpInfo := pool [(1, .class_ 2), (0, u "java/lang/constant/ConstantDesc"), (0, .class_ 4), (0, u "java/lang/Object")] 32

/-- java/lang/constant/ConstantDesc -/
def k7 : Class := { plain "java/lang/constant/ConstantDesc" (some 0) with
  accessFlags := 1537
  interfaces := #[]
  cf := some (fileOf pool7 1 #[] #[] 1537 3 #[] #[])
  fields := #[]
  methods := #[]
  instanceTypes := #[]
  staticTypes := #[]
  resolved := Array.replicate 37 none
  statics := none }

def pool8 : Array CpInfo := pool [(1, .class_ 2), (0, u "java/lang/Long"), (232, .class_ 237), (1, u "java/lang/Long$LongCache"), (33, .class_ 272), (0, u "java/lang/Number"), (2, u "value"), (0, u "J"), (27, u "compare"), (0, u "(JJ)I"), (55, u "TYPE"), (0, u "Ljava/lang/Class;"), (0, .class_ 364), (0, u "java/lang/Comparable"), (0, .class_ 366), (0, u "java/lang/constant/Constable"), (0, .class_ 368), (0, u "java/lang/constant/ConstantDesc"), (0, u "MIN_VALUE"), (1, u "MAX_VALUE"), (4, u "SIZE"), (0, u "I"), (1, u "BYTES"), (1, u "serialVersionUID")] 142

def k8c0 : Code := { maxStack := 4, maxLocals := 4, code := jdk_35_method_42_code, exceptionTable := #[], attributes := #[] }
def k8m0 : Method := { name := "compare", desc := "(JJ)I", sig := { parameters := [.long, .long], returnType := some .int }, accessFlags := 9, code := some k8c0 }
/-- java/lang/Long -/
def k8 : Class := { plain "java/lang/Long" (some 4) with
  accessFlags := 49
  interfaces := #[5, 6, 7]
  cf := some (fileOf pool8 1 #[.nestMembers #[235]] #[{ accessFlags := 9, nameIndex := 304, descriptorIndex := 305, attributes := #[] }] 49 271 #[363, 365, 367] #[{ accessFlags := 25, nameIndex := 369, descriptorIndex := 276, attributes := #[] }, { accessFlags := 25, nameIndex := 371, descriptorIndex := 276, attributes := #[] }, { accessFlags := 25, nameIndex := 361, descriptorIndex := 362, attributes := #[] }, { accessFlags := 18, nameIndex := 275, descriptorIndex := 276, attributes := #[] }, { accessFlags := 25, nameIndex := 376, descriptorIndex := 377, attributes := #[] }, { accessFlags := 25, nameIndex := 379, descriptorIndex := 377, attributes := #[] }, { accessFlags := 26, nameIndex := 381, descriptorIndex := 276, attributes := #[] }])
  fields := #[{ name := "MIN_VALUE", type := .long, accessFlags := 25, slot := 0, constantValue := 0 }, { name := "MAX_VALUE", type := .long, accessFlags := 25, slot := 1, constantValue := 0 }, { name := "TYPE", type := (.object "java/lang/Class"), accessFlags := 25, slot := 2, constantValue := 0 }, { name := "value", type := .long, accessFlags := 18, slot := 0, constantValue := 0 }, { name := "SIZE", type := .int, accessFlags := 25, slot := 3, constantValue := 0 }, { name := "BYTES", type := .int, accessFlags := 25, slot := 4, constantValue := 0 }, { name := "serialVersionUID", type := .long, accessFlags := 26, slot := 5, constantValue := 0 }]
  methods := #[k8m0]
  instanceTypes := #[.long]
  staticTypes := #[.long, .long, (.object "java/lang/Class"), .int, .int, .long]
  resolved := Array.replicate 524 none
  statics := none }

def pool9 : Array CpInfo := pool [(1, .class_ 2), (0, u "java/lang/Math"), (1, .class_ 6), (1, u "java/lang/Object"), (0, u "<init>"), (0, u "()V"), (89, .class_ 100), (1, u "java/lang/Math$RandomNumberGeneratorHolder"), (20, u "(JJ)J"), (16, .long 4294967295), (3, u "multiplyHigh"), (29, u "negativeZeroFloatBits"), (0, u "J"), (2, u "negativeZeroDoubleBits"), (68, u "$assertionsDisabled"), (0, u "Z"), (91, u "twoToTheDoubleScaleDown"), (0, u "D"), (4, u "twoToTheDoubleScaleUp"), (9, u "E"), (3, u "PI"), (2, u "TAU"), (2, u "DEGREES_TO_RADIANS"), (0, u "RADIANS_TO_DEGREES")] 94

def k9m0 : Method := { name := "<init>", desc := "()V", sig := { parameters := [], returnType := none }, accessFlags := 2, code := none }
def k9c1 : Code := { maxStack := 6, maxLocals := 20, code := jdk_29_method_45_code, exceptionTable := #[], attributes := #[] }
def k9m1 : Method := { name := "multiplyHigh", desc := "(JJ)J", sig := { parameters := [.long, .long], returnType := some .long }, accessFlags := 9, code := some k9c1 }
/-- java/lang/Math -/
def k9 : Class := { plain "java/lang/Math" (some 0) with
  accessFlags := 49
  interfaces := #[]
  cf := some (fileOf pool9 1 #[.nestMembers #[98]] #[{ accessFlags := 2, nameIndex := 7, descriptorIndex := 8, attributes := #[] }, { accessFlags := 9, nameIndex := 142, descriptorIndex := 121, attributes := #[] }] 49 4 #[] #[{ accessFlags := 25, nameIndex := 354, descriptorIndex := 339, attributes := #[] }, { accessFlags := 25, nameIndex := 358, descriptorIndex := 339, attributes := #[] }, { accessFlags := 25, nameIndex := 361, descriptorIndex := 339, attributes := #[] }, { accessFlags := 26, nameIndex := 364, descriptorIndex := 339, attributes := #[] }, { accessFlags := 26, nameIndex := 365, descriptorIndex := 339, attributes := #[] }, { accessFlags := 26, nameIndex := 172, descriptorIndex := 173, attributes := #[] }, { accessFlags := 26, nameIndex := 176, descriptorIndex := 173, attributes := #[] }, { accessFlags := 8, nameIndex := 344, descriptorIndex := 339, attributes := #[] }, { accessFlags := 8, nameIndex := 338, descriptorIndex := 339, attributes := #[] }, { accessFlags := 4120, nameIndex := 245, descriptorIndex := 246, attributes := #[] }])
  fields := #[{ name := "E", type := .double, accessFlags := 25, slot := 0, constantValue := 0 }, { name := "PI", type := .double, accessFlags := 25, slot := 1, constantValue := 0 }, { name := "TAU", type := .double, accessFlags := 25, slot := 2, constantValue := 0 }, { name := "DEGREES_TO_RADIANS", type := .double, accessFlags := 26, slot := 3, constantValue := 0 }, { name := "RADIANS_TO_DEGREES", type := .double, accessFlags := 26, slot := 4, constantValue := 0 }, { name := "negativeZeroFloatBits", type := .long, accessFlags := 26, slot := 5, constantValue := 0 }, { name := "negativeZeroDoubleBits", type := .long, accessFlags := 26, slot := 6, constantValue := 0 }, { name := "twoToTheDoubleScaleUp", type := .double, accessFlags := 8, slot := 7, constantValue := 0 }, { name := "twoToTheDoubleScaleDown", type := .double, accessFlags := 8, slot := 8, constantValue := 0 }, { name := "$assertionsDisabled", type := .boolean, accessFlags := 4120, slot := 9, constantValue := 0 }]
  methods := #[k9m0, k9m1]
  instanceTypes := #[]
  staticTypes := #[.double, .double, .double, .double, .double, .long, .long, .double, .double, .boolean]
  resolved := Array.replicate 460 none
  statics := none }

def pool10 : Array CpInfo := pool [(3, .methodref 4 5), (0, .class_ 6), (0, .nameAndType 7 8), (0, u "java/lang/Number"), (0, u "<init>"), (0, u "()V"), (8, .class_ 19), (1, u "java/util/Objects"), (2, .fieldref 23 24), (0, .class_ 25), (0, .nameAndType 26 27), (0, u "java/math/BigInteger"), (0, u "ZERO"), (0, u "Ljava/math/BigInteger;"), (0, .fieldref 23 29), (0, .nameAndType 30 31), (0, u "mag"), (0, u "[I"), (0, .fieldref 23 33), (0, .nameAndType 34 35), (0, u "signum"), (0, u "I"), (7, .integer 67108864), (8, u "([I)[I"), (0, .methodref 23 54), (0, .nameAndType 55 52), (0, u "trustedStripLeadingZeroInts"), (39, u "bitsPerDigit"), (0, u "[J"), (9, u "digitsPerInt"), (12, u "intRadix"), (10, .long 4294967295), (44, .methodref 23 176), (0, .nameAndType 7 177), (0, u "([II)V"), (2, u "SMALL_PRIME_PRODUCT"), (3, u "(Ljava/math/BigInteger;)Ljava/math/BigInteger;"), (52, u "valueOf"), (0, u "(J)Ljava/math/BigInteger;"), (2, u "add"), (18, u "ONE"), (6, u "TWO"), (6, u "subtract"), (36, u "$assertionsDisabled"), (0, u "Z"), (5, u "multiply"), (18, u "compareTo"), (0, u "(Ljava/math/BigInteger;)I"), (6, .long 16), (1, .fieldref 23 348), (0, .nameAndType 349 350), (0, u "posConst"), (0, u "[Ljava/math/BigInteger;"), (0, .long 18446744073709551600), (1, .fieldref 23 354), (0, .nameAndType 355 350), (0, u "negConst"), (0, .methodref 23 357), (0, .nameAndType 7 358), (0, u "(J)V"), (3, .methodref 23 363), (0, .nameAndType 241 364), (0, u "([I[I)[I"), (0, .methodref 23 366), (0, .nameAndType 367 338), (0, u "compareMagnitude"), (0, .methodref 23 369), (0, .nameAndType 274 364), (27, .methodref 23 398), (0, .nameAndType 318 399), (0, u "(Ljava/math/BigInteger;ZZI)Ljava/math/BigInteger;"), (7, .methodref 23 408), (0, .nameAndType 409 410), (0, u "multiplyToLen"), (0, u "([II[II[I)[I"), (30, .methodref 23 442), (0, .nameAndType 443 177), (0, u "multiplyToLenCheck"), (0, .methodref 23 445), (0, .nameAndType 446 410), (0, u "implMultiplyToLen"), (0, .methodref 17 448), (0, .nameAndType 449 450), (0, u "requireNonNull"), (0, u "(Ljava/lang/Object;)Ljava/lang/Object;"), (21, .class_ 474), (1, u "java/math/BigInteger$RecursiveOp"), (106, u "NEGATIVE_ONE"), (91, u "bnExpModThreshTable"), (72, u "lowestSetBitPlusTwo"), (2, u "bitLengthPlusOne"), (2, u "bitCountPlusOne"), (6, u "LOG_TWO"), (0, u "D"), (2, u "logCache"), (0, u "[D"), (13, u "NUM_ZEROS"), (2, u "ZEROS"), (0, u "Ljava/lang/String;"), (9, u "longRadix"), (5, u "digitsPerLong"), (22, u "powerCache"), (0, u "[[Ljava/math/BigInteger;"), (45, u "firstNonzeroIntNumPlusTwo"), (38, .class_ 909), (1, u "java/math/BigInteger$UnsafeHolder"), (141, u "TEN"), (106, u "serialPersistentFields"), (0, u "[Ljava/io/ObjectStreamField;"), (0, .class_ 1161), (0, u "java/lang/Comparable"), (0, u "LONG_MASK"), (0, u "J"), (1, u "MAX_MAG_LENGTH"), (0, u "PRIME_SEARCH_BIT_LENGTH_LIMIT"), (1, u "KARATSUBA_THRESHOLD"), (1, u "TOOM_COOK_THRESHOLD"), (1, u "KARATSUBA_SQUARE_THRESHOLD"), (1, u "TOOM_COOK_SQUARE_THRESHOLD"), (1, u "BURNIKEL_ZIEGLER_THRESHOLD"), (0, u "BURNIKEL_ZIEGLER_OFFSET"), (1, u "SCHOENHAGE_BASE_CONVERSION_THRESHOLD"), (1, u "MULTIPLY_SQUARE_THRESHOLD"), (0, u "MONTGOMERY_INTRINSIC_THRESHOLD"), (1, u "SMALL_PRIME_THRESHOLD"), (1, u "DEFAULT_PRIME_CERTAINTY"), (1, u "MAX_CONSTANT"), (3, u "serialVersionUID"), (338, .class_ 1532), (0, u "java/math/BigInteger$RecursiveOp$RecursiveSquare"), (0, .class_ 1534), (0, u "java/math/BigInteger$RecursiveOp$RecursiveMultiply")] 7

def k10c0 : Code := { maxStack := 2, maxLocals := 3, code := jdk_2097_method_25_code, exceptionTable := #[], attributes := #[] }
def k10m0 : Method := { name := "<init>", desc := "([II)V", sig := { parameters := [(.array .int), .int], returnType := none }, accessFlags := 0, code := some k10c0 }
def k10c1 : Code := { maxStack := 4, maxLocals := 2, code := jdk_2097_method_29_code, exceptionTable := #[], attributes := #[] }
def k10m1 : Method := { name := "valueOf", desc := "(J)Ljava/math/BigInteger;", sig := { parameters := [.long], returnType := some (.object "java/math/BigInteger") }, accessFlags := 9, code := some k10c1 }
def k10c2 : Code := { maxStack := 4, maxLocals := 4, code := jdk_2097_method_30_code, exceptionTable := #[], attributes := #[] }
def k10m2 : Method := { name := "<init>", desc := "(J)V", sig := { parameters := [.long], returnType := none }, accessFlags := 2, code := some k10c2 }
def k10c3 : Code := { maxStack := 5, maxLocals := 4, code := jdk_2097_method_32_code, exceptionTable := #[], attributes := #[] }
def k10m3 : Method := { name := "add", desc := "(Ljava/math/BigInteger;)Ljava/math/BigInteger;", sig := { parameters := [(.object "java/math/BigInteger")], returnType := some (.object "java/math/BigInteger") }, accessFlags := 1, code := some k10c3 }
def k10c4 : Code := { maxStack := 6, maxLocals := 9, code := jdk_2097_method_35_code, exceptionTable := #[], attributes := #[] }
def k10m4 : Method := { name := "add", desc := "([I[I)[I", sig := { parameters := [(.array .int), (.array .int)], returnType := some (.array .int) }, accessFlags := 10, code := some k10c4 }
def k10c5 : Code := { maxStack := 6, maxLocals := 8, code := jdk_2097_method_39_code, exceptionTable := #[], attributes := #[] }
def k10m5 : Method := { name := "subtract", desc := "([I[I)[I", sig := { parameters := [(.array .int), (.array .int)], returnType := some (.array .int) }, accessFlags := 10, code := some k10c5 }
def k10c6 : Code := { maxStack := 5, maxLocals := 2, code := jdk_2097_method_40_code, exceptionTable := #[], attributes := #[] }
def k10m6 : Method := { name := "multiply", desc := "(Ljava/math/BigInteger;)Ljava/math/BigInteger;", sig := { parameters := [(.object "java/math/BigInteger")], returnType := some (.object "java/math/BigInteger") }, accessFlags := 1, code := some k10c6 }
def k10c7 : Code := { maxStack := 5, maxLocals := 9, code := jdk_2097_method_42_code, exceptionTable := #[], attributes := #[] }
def k10m7 : Method := { name := "multiply", desc := "(Ljava/math/BigInteger;ZZI)Ljava/math/BigInteger;", sig := { parameters := [(.object "java/math/BigInteger"), .boolean, .boolean, .int], returnType := some (.object "java/math/BigInteger") }, accessFlags := 2, code := some k10c7 }
def k10c8 : Code := { maxStack := 5, maxLocals := 5, code := jdk_2097_method_45_code, exceptionTable := #[], attributes := #[] }
def k10m8 : Method := { name := "multiplyToLen", desc := "([II[II[I)[I", sig := { parameters := [(.array .int), .int, (.array .int), .int, (.array .int)], returnType := some (.array .int) }, accessFlags := 10, code := some k10c8 }
def k10c9 : Code := { maxStack := 6, maxLocals := 14, code := jdk_2097_method_46_code, exceptionTable := #[], attributes := #[] }
def k10m9 : Method := { name := "implMultiplyToLen", desc := "([II[II[I)[I", sig := { parameters := [(.array .int), .int, (.array .int), .int, (.array .int)], returnType := some (.array .int) }, accessFlags := 10, code := some k10c9 }
def k10c10 : Code := { maxStack := 4, maxLocals := 2, code := jdk_2097_method_47_code, exceptionTable := #[], attributes := #[] }
def k10m10 : Method := { name := "multiplyToLenCheck", desc := "([II)V", sig := { parameters := [(.array .int), .int], returnType := none }, accessFlags := 10, code := some k10c10 }
def k10c11 : Code := { maxStack := 2, maxLocals := 2, code := jdk_2097_method_121_code, exceptionTable := #[], attributes := #[] }
def k10m11 : Method := { name := "compareTo", desc := "(Ljava/math/BigInteger;)I", sig := { parameters := [(.object "java/math/BigInteger")], returnType := some .int }, accessFlags := 1, code := some k10c11 }
def k10c12 : Code := { maxStack := 6, maxLocals := 9, code := jdk_2097_method_122_code, exceptionTable := #[], attributes := #[] }
def k10m12 : Method := { name := "compareMagnitude", desc := "(Ljava/math/BigInteger;)I", sig := { parameters := [(.object "java/math/BigInteger")], returnType := some .int }, accessFlags := 16, code := some k10c12 }
def k10c13 : Code := { maxStack := 3, maxLocals := 3, code := jdk_2097_method_140_code, exceptionTable := #[], attributes := #[] }
def k10m13 : Method := { name := "trustedStripLeadingZeroInts", desc := "([I)[I", sig := { parameters := [(.array .int)], returnType := some (.array .int) }, accessFlags := 10, code := some k10c13 }
/-- java/math/BigInteger -/
def k10 : Class := { plain "java/math/BigInteger" (some 4) with
  accessFlags := 33
  interfaces := #[5]
  cf := some (fileOf pool10 23 #[.nestMembers #[907, 472, 1531, 1533]] #[{ accessFlags := 0, nameIndex := 7, descriptorIndex := 177, attributes := #[] }, { accessFlags := 9, nameIndex := 237, descriptorIndex := 238, attributes := #[] }, { accessFlags := 2, nameIndex := 7, descriptorIndex := 358, attributes := #[] }, { accessFlags := 1, nameIndex := 241, descriptorIndex := 184, attributes := #[] }, { accessFlags := 10, nameIndex := 241, descriptorIndex := 364, attributes := #[] }, { accessFlags := 10, nameIndex := 274, descriptorIndex := 364, attributes := #[] }, { accessFlags := 1, nameIndex := 318, descriptorIndex := 184, attributes := #[] }, { accessFlags := 2, nameIndex := 318, descriptorIndex := 399, attributes := #[] }, { accessFlags := 10, nameIndex := 409, descriptorIndex := 410, attributes := #[] }, { accessFlags := 10, nameIndex := 446, descriptorIndex := 410, attributes := #[] }, { accessFlags := 10, nameIndex := 443, descriptorIndex := 177, attributes := #[] }, { accessFlags := 1, nameIndex := 337, descriptorIndex := 338, attributes := #[] }, { accessFlags := 16, nameIndex := 367, descriptorIndex := 338, attributes := #[] }, { accessFlags := 10, nameIndex := 55, descriptorIndex := 52, attributes := #[] }] 33 4 #[1160] #[{ accessFlags := 16, nameIndex := 34, descriptorIndex := 35, attributes := #[] }, { accessFlags := 16, nameIndex := 30, descriptorIndex := 31, attributes := #[] }, { accessFlags := 2, nameIndex := 752, descriptorIndex := 35, attributes := #[] }, { accessFlags := 2, nameIndex := 749, descriptorIndex := 35, attributes := #[] }, { accessFlags := 2, nameIndex := 746, descriptorIndex := 35, attributes := #[] }, { accessFlags := 2, nameIndex := 868, descriptorIndex := 35, attributes := #[] }, { accessFlags := 24, nameIndex := 1162, descriptorIndex := 1163, attributes := #[] }, { accessFlags := 26, nameIndex := 1165, descriptorIndex := 35, attributes := #[] }, { accessFlags := 26, nameIndex := 1166, descriptorIndex := 35, attributes := #[] }, { accessFlags := 26, nameIndex := 1168, descriptorIndex := 35, attributes := #[] }, { accessFlags := 26, nameIndex := 1170, descriptorIndex := 35, attributes := #[] }, { accessFlags := 26, nameIndex := 1172, descriptorIndex := 35, attributes := #[] }, { accessFlags := 26, nameIndex := 1174, descriptorIndex := 35, attributes := #[] }, { accessFlags := 24, nameIndex := 1176, descriptorIndex := 35, attributes := #[] }, { accessFlags := 24, nameIndex := 1177, descriptorIndex := 35, attributes := #[] }, { accessFlags := 26, nameIndex := 1179, descriptorIndex := 35, attributes := #[] }, { accessFlags := 26, nameIndex := 1181, descriptorIndex := 35, attributes := #[] }, { accessFlags := 26, nameIndex := 1182, descriptorIndex := 35, attributes := #[] }, { accessFlags := 10, nameIndex := 95, descriptorIndex := 96, attributes := #[] }, { accessFlags := 26, nameIndex := 1184, descriptorIndex := 35, attributes := #[] }, { accessFlags := 26, nameIndex := 1186, descriptorIndex := 35, attributes := #[] }, { accessFlags := 26, nameIndex := 180, descriptorIndex := 27, attributes := #[] }, { accessFlags := 26, nameIndex := 1188, descriptorIndex := 35, attributes := #[] }, { accessFlags := 26, nameIndex := 349, descriptorIndex := 350, attributes := #[] }, { accessFlags := 26, nameIndex := 355, descriptorIndex := 350, attributes := #[] }, { accessFlags := 74, nameIndex := 821, descriptorIndex := 822, attributes := #[] }, { accessFlags := 26, nameIndex := 763, descriptorIndex := 764, attributes := #[] }, { accessFlags := 26, nameIndex := 759, descriptorIndex := 760, attributes := #[] }, { accessFlags := 25, nameIndex := 26, descriptorIndex := 27, attributes := #[] }, { accessFlags := 25, nameIndex := 260, descriptorIndex := 27, attributes := #[] }, { accessFlags := 25, nameIndex := 267, descriptorIndex := 27, attributes := #[] }, { accessFlags := 26, nameIndex := 581, descriptorIndex := 27, attributes := #[] }, { accessFlags := 25, nameIndex := 1051, descriptorIndex := 27, attributes := #[] }, { accessFlags := 8, nameIndex := 673, descriptorIndex := 31, attributes := #[] }, { accessFlags := 10, nameIndex := 778, descriptorIndex := 35, attributes := #[] }, { accessFlags := 26, nameIndex := 781, descriptorIndex := 782, attributes := #[] }, { accessFlags := 10, nameIndex := 798, descriptorIndex := 31, attributes := #[] }, { accessFlags := 10, nameIndex := 792, descriptorIndex := 350, attributes := #[] }, { accessFlags := 10, nameIndex := 106, descriptorIndex := 31, attributes := #[] }, { accessFlags := 10, nameIndex := 119, descriptorIndex := 31, attributes := #[] }, { accessFlags := 26, nameIndex := 1192, descriptorIndex := 1163, attributes := #[] }, { accessFlags := 26, nameIndex := 1158, descriptorIndex := 1159, attributes := #[] }, { accessFlags := 4120, nameIndex := 311, descriptorIndex := 312, attributes := #[] }])
  fields := #[{ name := "signum", type := .int, accessFlags := 16, slot := 0, constantValue := 0 }, { name := "mag", type := (.array .int), accessFlags := 16, slot := 1, constantValue := 0 }, { name := "bitCountPlusOne", type := .int, accessFlags := 2, slot := 2, constantValue := 0 }, { name := "bitLengthPlusOne", type := .int, accessFlags := 2, slot := 3, constantValue := 0 }, { name := "lowestSetBitPlusTwo", type := .int, accessFlags := 2, slot := 4, constantValue := 0 }, { name := "firstNonzeroIntNumPlusTwo", type := .int, accessFlags := 2, slot := 5, constantValue := 0 }, { name := "LONG_MASK", type := .long, accessFlags := 24, slot := 0, constantValue := 0 }, { name := "MAX_MAG_LENGTH", type := .int, accessFlags := 26, slot := 1, constantValue := 0 }, { name := "PRIME_SEARCH_BIT_LENGTH_LIMIT", type := .int, accessFlags := 26, slot := 2, constantValue := 0 }, { name := "KARATSUBA_THRESHOLD", type := .int, accessFlags := 26, slot := 3, constantValue := 0 }, { name := "TOOM_COOK_THRESHOLD", type := .int, accessFlags := 26, slot := 4, constantValue := 0 }, { name := "KARATSUBA_SQUARE_THRESHOLD", type := .int, accessFlags := 26, slot := 5, constantValue := 0 }, { name := "TOOM_COOK_SQUARE_THRESHOLD", type := .int, accessFlags := 26, slot := 6, constantValue := 0 }, { name := "BURNIKEL_ZIEGLER_THRESHOLD", type := .int, accessFlags := 24, slot := 7, constantValue := 0 }, { name := "BURNIKEL_ZIEGLER_OFFSET", type := .int, accessFlags := 24, slot := 8, constantValue := 0 }, { name := "SCHOENHAGE_BASE_CONVERSION_THRESHOLD", type := .int, accessFlags := 26, slot := 9, constantValue := 0 }, { name := "MULTIPLY_SQUARE_THRESHOLD", type := .int, accessFlags := 26, slot := 10, constantValue := 0 }, { name := "MONTGOMERY_INTRINSIC_THRESHOLD", type := .int, accessFlags := 26, slot := 11, constantValue := 0 }, { name := "bitsPerDigit", type := (.array .long), accessFlags := 10, slot := 12, constantValue := 0 }, { name := "SMALL_PRIME_THRESHOLD", type := .int, accessFlags := 26, slot := 13, constantValue := 0 }, { name := "DEFAULT_PRIME_CERTAINTY", type := .int, accessFlags := 26, slot := 14, constantValue := 0 }, { name := "SMALL_PRIME_PRODUCT", type := (.object "java/math/BigInteger"), accessFlags := 26, slot := 15, constantValue := 0 }, { name := "MAX_CONSTANT", type := .int, accessFlags := 26, slot := 16, constantValue := 0 }, { name := "posConst", type := (.array (.object "java/math/BigInteger")), accessFlags := 26, slot := 17, constantValue := 0 }, { name := "negConst", type := (.array (.object "java/math/BigInteger")), accessFlags := 26, slot := 18, constantValue := 0 }, { name := "powerCache", type := (.array (.array (.object "java/math/BigInteger"))), accessFlags := 74, slot := 19, constantValue := 0 }, { name := "logCache", type := (.array .double), accessFlags := 26, slot := 20, constantValue := 0 }, { name := "LOG_TWO", type := .double, accessFlags := 26, slot := 21, constantValue := 0 }, { name := "ZERO", type := (.object "java/math/BigInteger"), accessFlags := 25, slot := 22, constantValue := 0 }, { name := "ONE", type := (.object "java/math/BigInteger"), accessFlags := 25, slot := 23, constantValue := 0 }, { name := "TWO", type := (.object "java/math/BigInteger"), accessFlags := 25, slot := 24, constantValue := 0 }, { name := "NEGATIVE_ONE", type := (.object "java/math/BigInteger"), accessFlags := 26, slot := 25, constantValue := 0 }, { name := "TEN", type := (.object "java/math/BigInteger"), accessFlags := 25, slot := 26, constantValue := 0 }, { name := "bnExpModThreshTable", type := (.array .int), accessFlags := 8, slot := 27, constantValue := 0 }, { name := "NUM_ZEROS", type := .int, accessFlags := 10, slot := 28, constantValue := 0 }, { name := "ZEROS", type := (.object "java/lang/String"), accessFlags := 26, slot := 29, constantValue := 0 }, { name := "digitsPerLong", type := (.array .int), accessFlags := 10, slot := 30, constantValue := 0 }, { name := "longRadix", type := (.array (.object "java/math/BigInteger")), accessFlags := 10, slot := 31, constantValue := 0 }, { name := "digitsPerInt", type := (.array .int), accessFlags := 10, slot := 32, constantValue := 0 }, { name := "intRadix", type := (.array .int), accessFlags := 10, slot := 33, constantValue := 0 }, { name := "serialVersionUID", type := .long, accessFlags := 26, slot := 34, constantValue := 0 }, { name := "serialPersistentFields", type := (.array (.object "java/io/ObjectStreamField")), accessFlags := 26, slot := 35, constantValue := 0 }, { name := "$assertionsDisabled", type := .boolean, accessFlags := 4120, slot := 36, constantValue := 0 }]
  methods := #[k10m0, k10m1, k10m2, k10m3, k10m4, k10m5, k10m6, k10m7, k10m8, k10m9, k10m10, k10m11, k10m12, k10m13]
  instanceTypes := #[.int, (.array .int), .int, .int, .int, .int]
  staticTypes := #[.long, .int, .int, .int, .int, .int, .int, .int, .int, .int, .int, .int, (.array .long), .int, .int, (.object "java/math/BigInteger"), .int, (.array (.object "java/math/BigInteger")), (.array (.object "java/math/BigInteger")), (.array (.array (.object "java/math/BigInteger"))), (.array .double), .double, (.object "java/math/BigInteger"), (.object "java/math/BigInteger"), (.object "java/math/BigInteger"), (.object "java/math/BigInteger"), (.object "java/math/BigInteger"), (.array .int), .int, (.object "java/lang/String"), (.array .int), (.array (.object "java/math/BigInteger")), (.array .int), (.array .int), .long, (.array (.object "java/io/ObjectStreamField")), .boolean]
  resolved := Array.replicate 1542 none
  statics := some 0 }

def pool11 : Array CpInfo := pool [(2, .class_ 4), (1, u "java/lang/Object"), (0, u "<init>"), (0, u "()V"), (35, .class_ 44), (1, u "java/util/Objects"), (0, u "requireNonNull"), (0, u "(Ljava/lang/Object;)Ljava/lang/Object;")] 137

def k11m0 : Method := { name := "<init>", desc := "()V", sig := { parameters := [], returnType := none }, accessFlags := 2, code := none }
def k11c1 : Code := { maxStack := 2, maxLocals := 1, code := jdk_31_method_10_code, exceptionTable := #[], attributes := #[] }
def k11m1 : Method := { name := "requireNonNull", desc := "(Ljava/lang/Object;)Ljava/lang/Object;", sig := { parameters := [(.object "java/lang/Object")], returnType := some (.object "java/lang/Object") }, accessFlags := 9, code := some k11c1 }
/-- java/util/Objects -/
def k11 : Class := { plain "java/util/Objects" (some 0) with
  accessFlags := 49
  interfaces := #[]
  cf := some (fileOf pool11 42 #[] #[{ accessFlags := 2, nameIndex := 5, descriptorIndex := 6, attributes := #[] }, { accessFlags := 9, nameIndex := 45, descriptorIndex := 46, attributes := #[] }] 49 2 #[] #[])
  fields := #[]
  methods := #[k11m0, k11m1]
  instanceTypes := #[]
  staticTypes := #[]
  resolved := Array.replicate 184 none
  statics := none }

def pool12 : Array CpInfo := pool [(1, u "java/lang/Cloneable"), (0, .class_ 1), (0, u "java/lang/Object"), (0, .class_ 3)] 3

/-- java/lang/Cloneable -/
def k12 : Class := { plain "java/lang/Cloneable" (some 0) with
  accessFlags := 1537
  interfaces := #[]
  cf := some (fileOf pool12 2 #[] #[] 1537 4 #[] #[])
  fields := #[]
  methods := #[]
  instanceTypes := #[]
  staticTypes := #[]
  resolved := Array.replicate 8 none
  statics := none }

/-- the primitive byte -/
def k13 : Class := { plain "byte" none with kind := .primitive 'B', accessFlags := 0x411 }
/-- [B -/
def k14 : Class := { plain "[B" (some 0) with kind := .array 13 .byte, interfaces := #[12, 3], accessFlags := 1041 }

/-- the primitive int -/
def k15 : Class := { plain "int" none with kind := .primitive 'I', accessFlags := 0x411 }
/-- [I -/
def k16 : Class := { plain "[I" (some 0) with kind := .array 15 .int, interfaces := #[12, 3], accessFlags := 1041 }

/-- [Ljava/math/BigInteger; -/
def k17 : Class := { plain "[Ljava/math/BigInteger;" (some 0) with kind := .array 10 (.object "java/math/BigInteger"), interfaces := #[12, 3], accessFlags := 1041 }

def heap : Heap := #[{ cls := 10, slots := #[.long 0, .int 0, .int 0, .int 0, .int 0, .int 0, .int 0, .int 0, .int 0, .int 0, .int 0, .int 0, .null, .int 0, .int 0, .null, .int 0, .ref 1, .ref 3, .null, .null, .double 0, .ref 2, .ref 5, .ref 7, .ref 37, .ref 23, .null, .int 0, .null, .null, .null, .null, .null, .long 0, .null, .int 0], vm := .statics 10 },
  { cls := 17, slots := #[.null, .ref 5, .ref 7, .ref 9, .ref 11, .ref 13, .ref 15, .ref 17, .ref 19, .ref 21, .ref 23, .ref 25, .ref 27, .ref 29, .ref 31, .ref 33, .ref 35], vm := .none },
  { cls := 10, slots := #[.int 0, .ref 4, .int 0, .int 0, .int 0, .int 0], vm := .none },
  { cls := 17, slots := #[.null, .ref 37, .ref 39, .ref 41, .ref 43, .ref 45, .ref 47, .ref 49, .ref 51, .ref 53, .ref 55, .ref 57, .ref 59, .ref 61, .ref 63, .ref 65, .ref 67], vm := .none },
  { cls := 16, slots := #[], vm := .none },
  { cls := 10, slots := #[.int 1, .ref 6, .int 0, .int 0, .int 0, .int 0], vm := .none },
  { cls := 16, slots := #[.int 1], vm := .none },
  { cls := 10, slots := #[.int 1, .ref 8, .int 0, .int 0, .int 0, .int 0], vm := .none },
  { cls := 16, slots := #[.int 2], vm := .none },
  { cls := 10, slots := #[.int 1, .ref 10, .int 0, .int 0, .int 0, .int 0], vm := .none },
  { cls := 16, slots := #[.int 3], vm := .none },
  { cls := 10, slots := #[.int 1, .ref 12, .int 0, .int 0, .int 0, .int 0], vm := .none },
  { cls := 16, slots := #[.int 4], vm := .none },
  { cls := 10, slots := #[.int 1, .ref 14, .int 0, .int 0, .int 0, .int 0], vm := .none },
  { cls := 16, slots := #[.int 5], vm := .none },
  { cls := 10, slots := #[.int 1, .ref 16, .int 0, .int 0, .int 0, .int 0], vm := .none },
  { cls := 16, slots := #[.int 6], vm := .none },
  { cls := 10, slots := #[.int 1, .ref 18, .int 0, .int 0, .int 0, .int 0], vm := .none },
  { cls := 16, slots := #[.int 7], vm := .none },
  { cls := 10, slots := #[.int 1, .ref 20, .int 0, .int 0, .int 0, .int 0], vm := .none },
  { cls := 16, slots := #[.int 8], vm := .none },
  { cls := 10, slots := #[.int 1, .ref 22, .int 0, .int 0, .int 0, .int 0], vm := .none },
  { cls := 16, slots := #[.int 9], vm := .none },
  { cls := 10, slots := #[.int 1, .ref 24, .int 0, .int 0, .int 0, .int 0], vm := .none },
  { cls := 16, slots := #[.int 10], vm := .none },
  { cls := 10, slots := #[.int 1, .ref 26, .int 0, .int 0, .int 0, .int 0], vm := .none },
  { cls := 16, slots := #[.int 11], vm := .none },
  { cls := 10, slots := #[.int 1, .ref 28, .int 0, .int 0, .int 0, .int 0], vm := .none },
  { cls := 16, slots := #[.int 12], vm := .none },
  { cls := 10, slots := #[.int 1, .ref 30, .int 0, .int 0, .int 0, .int 0], vm := .none },
  { cls := 16, slots := #[.int 13], vm := .none },
  { cls := 10, slots := #[.int 1, .ref 32, .int 0, .int 0, .int 0, .int 0], vm := .none },
  { cls := 16, slots := #[.int 14], vm := .none },
  { cls := 10, slots := #[.int 1, .ref 34, .int 0, .int 0, .int 0, .int 0], vm := .none },
  { cls := 16, slots := #[.int 15], vm := .none },
  { cls := 10, slots := #[.int 1, .ref 36, .int 0, .int 0, .int 0, .int 0], vm := .none },
  { cls := 16, slots := #[.int 16], vm := .none },
  { cls := 10, slots := #[.int (-1), .ref 38, .int 0, .int 0, .int 0, .int 0], vm := .none },
  { cls := 16, slots := #[.int 1], vm := .none },
  { cls := 10, slots := #[.int (-1), .ref 40, .int 0, .int 0, .int 0, .int 0], vm := .none },
  { cls := 16, slots := #[.int 2], vm := .none },
  { cls := 10, slots := #[.int (-1), .ref 42, .int 0, .int 0, .int 0, .int 0], vm := .none },
  { cls := 16, slots := #[.int 3], vm := .none },
  { cls := 10, slots := #[.int (-1), .ref 44, .int 0, .int 0, .int 0, .int 0], vm := .none },
  { cls := 16, slots := #[.int 4], vm := .none },
  { cls := 10, slots := #[.int (-1), .ref 46, .int 0, .int 0, .int 0, .int 0], vm := .none },
  { cls := 16, slots := #[.int 5], vm := .none },
  { cls := 10, slots := #[.int (-1), .ref 48, .int 0, .int 0, .int 0, .int 0], vm := .none },
  { cls := 16, slots := #[.int 6], vm := .none },
  { cls := 10, slots := #[.int (-1), .ref 50, .int 0, .int 0, .int 0, .int 0], vm := .none },
  { cls := 16, slots := #[.int 7], vm := .none },
  { cls := 10, slots := #[.int (-1), .ref 52, .int 0, .int 0, .int 0, .int 0], vm := .none },
  { cls := 16, slots := #[.int 8], vm := .none },
  { cls := 10, slots := #[.int (-1), .ref 54, .int 0, .int 0, .int 0, .int 0], vm := .none },
  { cls := 16, slots := #[.int 9], vm := .none },
  { cls := 10, slots := #[.int (-1), .ref 56, .int 0, .int 0, .int 0, .int 0], vm := .none },
  { cls := 16, slots := #[.int 10], vm := .none },
  { cls := 10, slots := #[.int (-1), .ref 58, .int 0, .int 0, .int 0, .int 0], vm := .none },
  { cls := 16, slots := #[.int 11], vm := .none },
  { cls := 10, slots := #[.int (-1), .ref 60, .int 0, .int 0, .int 0, .int 0], vm := .none },
  { cls := 16, slots := #[.int 12], vm := .none },
  { cls := 10, slots := #[.int (-1), .ref 62, .int 0, .int 0, .int 0, .int 0], vm := .none },
  { cls := 16, slots := #[.int 13], vm := .none },
  { cls := 10, slots := #[.int (-1), .ref 64, .int 0, .int 0, .int 0, .int 0], vm := .none },
  { cls := 16, slots := #[.int 14], vm := .none },
  { cls := 10, slots := #[.int (-1), .ref 66, .int 0, .int 0, .int 0, .int 0], vm := .none },
  { cls := 16, slots := #[.int 15], vm := .none },
  { cls := 10, slots := #[.int (-1), .ref 68, .int 0, .int 0, .int 0, .int 0], vm := .none },
  { cls := 16, slots := #[.int 16], vm := .none }]
def classes : Array Class := #[k0, k1, k2, k3, k4, k5, k6, k7, k8, k9, k10, k11, k12, k13, k14, k15, k16, k17]
def interned : List (Array UInt16 × Addr) := []
def slotsUsed : Nat := 301
def theMethod : MethodId := ⟨1, 1⟩
def args0 : Array Value := #[.long 5, .long 5, .int 5]
def aboutOver (below : List Frame) : State where
  vm := { classes := classes, interned := interned.toArray }
  heap := heap
  slotsUsed := slotsUsed
  threads := #[{ frames := .invoking theMethod args0 :: below }]
def below0 : List Frame := [.native { method := ⟨0, 0⟩, args := #[] }]
def about1 : State := aboutOver below0
def p0 : Program := .bare "" "" ""
def e0 : Env := launch0.env 0 0 0
theorem w_frames : about1.frames = Frame.invoking theMethod args0 :: below0 := rfl
set_option maxRecDepth 65536 in
theorem w_args : argsFit about1.vm theMethod args0 = true := by decide +kernel
set_option maxRecDepth 65536 in
theorem w_heap : heapFits about1 = true := by decide +kernel
set_option maxRecDepth 65536 in
theorem w_runnable : about1.curStatus? = some .runnable := by decide +kernel
set_option maxRecDepth 65536 in
theorem w_alone : about1.alone = true := by decide +kernel
set_option maxRecDepth 65536 in
theorem w_named : about1.methodNamed? x = some theMethod := by decide +kernel
set_option maxRecDepth 65536 in
theorem w_hears : about1.hears theMethod below0 = true := by decide +kernel
set_option maxRecDepth 65536 in
theorem w_ripe : about1.ripe theMethod args0 below0 = true := by decide +kernel
theorem w_running : about1.status = .running := rfl
set_option maxRecDepth 65536 in
theorem w_room : about1.hasRoom e0.platform room_1 = true :=
  launch0.hasRoom_least _ room_1 (by decide +kernel) (by decide +kernel) (by decide +kernel) (by decide +kernel) (by decide +kernel) (by decide +kernel)
theorem allAtoms_all (ts : List Jvm.Cond) (a : Array Jvm.Value) (st : Jvm.State) : (allAtoms ts).before a st = ts.all (fun c => c.before a st) := by
  induction ts with
  | nil => rfl
  | cons c t ih =>
    show (Jvm.Cond.and c (allAtoms t)).before a st = _
    rw [Jvm.Cond.before_and, ih, List.all_cons]
def words1 : List Jvm.Cond := Jvm.Cond.code x code maxLocals ret :: tables_1
/-- a 'code' word, met by the world's own term for the bytes: nothing is compared byte by byte -/
theorem code_word {y : MethodName} {bytes : ByteArray} {mx : Nat} {rt : Option FieldType} {a : Array Value} {s : State} {m : MethodId} {meth : Method} {c : Code} (h1 : s.methodNamed? y = some m) (h2 : s.vm.method? m = some meth) (h3 : meth.code = some c) (h4 : c.code = bytes)
    (h5 : (c.maxLocals == mx && c.exceptionTable.isEmpty && decide (c.maxStack ≤ mostOperands) && decide (meth.sig.returnType = rt) && !meth.locks && decide (parseMethodDescriptor y.desc = some meth.sig)) = true) : (Jvm.Cond.code y bytes mx rt).before a s = true := by
  simp only [Bool.and_eq_true, beq_iff_eq, Bool.not_eq_true', decide_eq_true_eq] at h5
  obtain ⟨⟨⟨⟨⟨g1, g2⟩, g3⟩, g4⟩, g5⟩, g6⟩ := h5
  simp [Cond.before, Cond.holds, Cond.value, h1, h2, h3, h4, g1, g2, g3, g4, g5, g6]
def isCode : Jvm.Cond → Bool
  | .code _ _ _ _ => true
  | _ => false
theorem all_split {L : List Jvm.Cond} {P : Jvm.Cond → Bool} (h1 : L.all (fun c => isCode c || P c) = true) (h2 : ∀ c ∈ L.filter isCode, P c = true) : L.all P = true := by
  refine List.all_eq_true.mpr fun c hc => ?_
  have h := List.all_eq_true.mp h1 c hc
  rcases Bool.eq_false_or_eq_true (isCode c) with hi | hi
  · exact h2 c (List.mem_filter.mpr ⟨hc, hi⟩)
  · simpa [hi] using h
set_option maxRecDepth 65536 in
theorem w_c0 : (Jvm.Cond.code x code maxLocals ret).before args0 about1 = true := code_word (m := ⟨1, 1⟩) (meth := k1m1) (c := k1c1) (by decide +kernel) rfl rfl rfl (by decide +kernel)
set_option maxRecDepth 65536 in
theorem w_c1 : (Jvm.Cond.code ({ cls := "com/example/pactum/pactum/admission/ExactSum", name := "<init>", desc := "(J)V" } : Jvm.MethodName) prog_25_method_2_code (3 : Nat) (Option.none : Option Jvm.ClassFile.FieldType)).before args0 about1 = true := code_word (m := ⟨2, 1⟩) (meth := k2m1) (c := k2c1) (by decide +kernel) rfl rfl rfl (by decide +kernel)
set_option maxRecDepth 65536 in
theorem w_c2 : (Jvm.Cond.code ({ cls := "java/lang/Object", name := "<init>", desc := "()V" } : Jvm.MethodName) object_method_1_code (1 : Nat) (Option.none : Option Jvm.ClassFile.FieldType)).before args0 about1 = true := code_word (m := ⟨0, 0⟩) (meth := k0m0) (c := k0c0) (by decide +kernel) rfl rfl rfl (by decide +kernel)
set_option maxRecDepth 65536 in
theorem w_c3 : (Jvm.Cond.code ({ cls := "com/example/pactum/pactum/admission/ExactSum", name := "<init>", desc := "()V" } : Jvm.MethodName) prog_25_method_1_code (1 : Nat) (Option.none : Option Jvm.ClassFile.FieldType)).before args0 about1 = true := code_word (m := ⟨2, 0⟩) (meth := k2m0) (c := k2c0) (by decide +kernel) rfl rfl rfl (by decide +kernel)
set_option maxRecDepth 65536 in
theorem w_c4 : (Jvm.Cond.code ({ cls := "com/example/pactum/pactum/admission/ExactSum", name := "add", desc := "(J)V" } : Jvm.MethodName) prog_25_method_10_code (5 : Nat) (Option.none : Option Jvm.ClassFile.FieldType)).before args0 about1 = true := code_word (m := ⟨2, 7⟩) (meth := k2m7) (c := k2c7) (by decide +kernel) rfl rfl rfl (by decide +kernel)
set_option maxRecDepth 65536 in
theorem w_c5 : (Jvm.Cond.code ({ cls := "com/example/pactum/pactum/admission/ExactSum", name := "set", desc := "(Lcom/example/pactum/pactum/admission/ExactSum;)V" } : Jvm.MethodName) prog_25_method_4_code (2 : Nat) (Option.none : Option Jvm.ClassFile.FieldType)).before args0 about1 = true := code_word (m := ⟨2, 2⟩) (meth := k2m2) (c := k2c2) (by decide +kernel) rfl rfl rfl (by decide +kernel)
set_option maxRecDepth 65536 in
theorem w_c6 : (Jvm.Cond.code ({ cls := "com/example/pactum/pactum/admission/ExactSum", name := "fitsLong", desc := "()Z" } : Jvm.MethodName) prog_25_method_5_code (1 : Nat) (Option.some Jvm.ClassFile.FieldType.boolean)).before args0 about1 = true := code_word (m := ⟨2, 3⟩) (meth := k2m3) (c := k2c3) (by decide +kernel) rfl rfl rfl (by decide +kernel)
set_option maxRecDepth 65536 in
theorem w_c7 : (Jvm.Cond.code ({ cls := "com/example/pactum/pactum/admission/ExactSum", name := "longValue", desc := "()J" } : Jvm.MethodName) prog_25_method_6_code (1 : Nat) (Option.some Jvm.ClassFile.FieldType.long)).before args0 about1 = true := code_word (m := ⟨2, 4⟩) (meth := k2m4) (c := k2c4) (by decide +kernel) rfl rfl rfl (by decide +kernel)
set_option maxRecDepth 65536 in
theorem w_c8 : (Jvm.Cond.code ({ cls := "com/example/pactum/pactum/admission/ExactSum", name := "compareTo", desc := "(Lcom/example/pactum/pactum/admission/ExactSum;)I" } : Jvm.MethodName) prog_25_method_9_code (2 : Nat) (Option.some Jvm.ClassFile.FieldType.int)).before args0 about1 = true := code_word (m := ⟨2, 6⟩) (meth := k2m6) (c := k2c6) (by decide +kernel) rfl rfl rfl (by decide +kernel)
set_option maxRecDepth 65536 in
theorem w_c9 : (Jvm.Cond.code ({ cls := "java/lang/Long", name := "compare", desc := "(JJ)I" } : Jvm.MethodName) jdk_35_method_42_code (4 : Nat) (Option.some Jvm.ClassFile.FieldType.int)).before args0 about1 = true := code_word (m := ⟨8, 0⟩) (meth := k8m0) (c := k8c0) (by decide +kernel) rfl rfl rfl (by decide +kernel)
set_option maxRecDepth 65536 in
theorem w_c10 : (Jvm.Cond.code ({ cls := "com/example/pactum/pactum/admission/ExactSum", name := "add", desc := "(JJ)V" } : Jvm.MethodName) prog_25_method_11_code (9 : Nat) (Option.none : Option Jvm.ClassFile.FieldType)).before args0 about1 = true := code_word (m := ⟨2, 8⟩) (meth := k2m8) (c := k2c8) (by decide +kernel) rfl rfl rfl (by decide +kernel)
set_option maxRecDepth 65536 in
theorem w_c11 : (Jvm.Cond.code ({ cls := "java/lang/Math", name := "multiplyHigh", desc := "(JJ)J" } : Jvm.MethodName) jdk_29_method_45_code (20 : Nat) (Option.some Jvm.ClassFile.FieldType.long)).before args0 about1 = true := code_word (m := ⟨9, 1⟩) (meth := k9m1) (c := k9c1) (by decide +kernel) rfl rfl rfl (by decide +kernel)
set_option maxRecDepth 65536 in
theorem w_c12 : (Jvm.Cond.code ({ cls := "com/example/pactum/pactum/admission/ExactSum", name := "value", desc := "()Ljava/math/BigInteger;" } : Jvm.MethodName) prog_25_method_7_code (1 : Nat) (Option.some (Jvm.ClassFile.FieldType.object "java/math/BigInteger"))).before args0 about1 = true := code_word (m := ⟨2, 5⟩) (meth := k2m5) (c := k2c5) (by decide +kernel) rfl rfl rfl (by decide +kernel)
set_option maxRecDepth 65536 in
theorem w_c13 : (Jvm.Cond.code ({ cls := "java/math/BigInteger", name := "valueOf", desc := "(J)Ljava/math/BigInteger;" } : Jvm.MethodName) jdk_2097_method_29_code (2 : Nat) (Option.some (Jvm.ClassFile.FieldType.object "java/math/BigInteger"))).before args0 about1 = true := code_word (m := ⟨10, 1⟩) (meth := k10m1) (c := k10c1) (by decide +kernel) rfl rfl rfl (by decide +kernel)
set_option maxRecDepth 65536 in
theorem w_c14 : (Jvm.Cond.code ({ cls := "java/math/BigInteger", name := "<init>", desc := "(J)V" } : Jvm.MethodName) jdk_2097_method_30_code (4 : Nat) (Option.none : Option Jvm.ClassFile.FieldType)).before args0 about1 = true := code_word (m := ⟨10, 2⟩) (meth := k10m2) (c := k10c2) (by decide +kernel) rfl rfl rfl (by decide +kernel)
set_option maxRecDepth 65536 in
theorem w_c15 : (Jvm.Cond.code ({ cls := "java/lang/Number", name := "<init>", desc := "()V" } : Jvm.MethodName) jdk_18_method_1_code (1 : Nat) (Option.none : Option Jvm.ClassFile.FieldType)).before args0 about1 = true := code_word (m := ⟨4, 0⟩) (meth := k4m0) (c := k4c0) (by decide +kernel) rfl rfl rfl (by decide +kernel)
set_option maxRecDepth 65536 in
theorem w_c16 : (Jvm.Cond.code ({ cls := "java/math/BigInteger", name := "multiply", desc := "(Ljava/math/BigInteger;)Ljava/math/BigInteger;" } : Jvm.MethodName) jdk_2097_method_40_code (2 : Nat) (Option.some (Jvm.ClassFile.FieldType.object "java/math/BigInteger"))).before args0 about1 = true := code_word (m := ⟨10, 6⟩) (meth := k10m6) (c := k10c6) (by decide +kernel) rfl rfl rfl (by decide +kernel)
set_option maxRecDepth 65536 in
theorem w_c17 : (Jvm.Cond.code ({ cls := "java/math/BigInteger", name := "multiply", desc := "(Ljava/math/BigInteger;ZZI)Ljava/math/BigInteger;" } : Jvm.MethodName) jdk_2097_method_42_code (9 : Nat) (Option.some (Jvm.ClassFile.FieldType.object "java/math/BigInteger"))).before args0 about1 = true := code_word (m := ⟨10, 7⟩) (meth := k10m7) (c := k10c7) (by decide +kernel) rfl rfl rfl (by decide +kernel)
set_option maxRecDepth 65536 in
theorem w_c18 : (Jvm.Cond.code ({ cls := "java/math/BigInteger", name := "multiplyToLen", desc := "([II[II[I)[I" } : Jvm.MethodName) jdk_2097_method_45_code (5 : Nat) (Option.some (Jvm.ClassFile.FieldType.array Jvm.ClassFile.FieldType.int))).before args0 about1 = true := code_word (m := ⟨10, 8⟩) (meth := k10m8) (c := k10c8) (by decide +kernel) rfl rfl rfl (by decide +kernel)
set_option maxRecDepth 65536 in
theorem w_c19 : (Jvm.Cond.code ({ cls := "java/math/BigInteger", name := "multiplyToLenCheck", desc := "([II)V" } : Jvm.MethodName) jdk_2097_method_47_code (2 : Nat) (Option.none : Option Jvm.ClassFile.FieldType)).before args0 about1 = true := code_word (m := ⟨10, 10⟩) (meth := k10m10) (c := k10c10) (by decide +kernel) rfl rfl rfl (by decide +kernel)
set_option maxRecDepth 65536 in
theorem w_c20 : (Jvm.Cond.code ({ cls := "java/util/Objects", name := "requireNonNull", desc := "(Ljava/lang/Object;)Ljava/lang/Object;" } : Jvm.MethodName) jdk_31_method_10_code (1 : Nat) (Option.some (Jvm.ClassFile.FieldType.object "java/lang/Object"))).before args0 about1 = true := code_word (m := ⟨11, 1⟩) (meth := k11m1) (c := k11c1) (by decide +kernel) rfl rfl rfl (by decide +kernel)
set_option maxRecDepth 65536 in
theorem w_c21 : (Jvm.Cond.code ({ cls := "java/math/BigInteger", name := "implMultiplyToLen", desc := "([II[II[I)[I" } : Jvm.MethodName) jdk_2097_method_46_code (14 : Nat) (Option.some (Jvm.ClassFile.FieldType.array Jvm.ClassFile.FieldType.int))).before args0 about1 = true := code_word (m := ⟨10, 9⟩) (meth := k10m9) (c := k10c9) (by decide +kernel) rfl rfl rfl (by decide +kernel)
set_option maxRecDepth 65536 in
theorem w_c22 : (Jvm.Cond.code ({ cls := "java/math/BigInteger", name := "trustedStripLeadingZeroInts", desc := "([I)[I" } : Jvm.MethodName) jdk_2097_method_140_code (3 : Nat) (Option.some (Jvm.ClassFile.FieldType.array Jvm.ClassFile.FieldType.int))).before args0 about1 = true := code_word (m := ⟨10, 13⟩) (meth := k10m13) (c := k10c13) (by decide +kernel) rfl rfl rfl (by decide +kernel)
set_option maxRecDepth 65536 in
theorem w_c23 : (Jvm.Cond.code ({ cls := "java/math/BigInteger", name := "<init>", desc := "([II)V" } : Jvm.MethodName) jdk_2097_method_25_code (3 : Nat) (Option.none : Option Jvm.ClassFile.FieldType)).before args0 about1 = true := code_word (m := ⟨10, 0⟩) (meth := k10m0) (c := k10c0) (by decide +kernel) rfl rfl rfl (by decide +kernel)
set_option maxRecDepth 65536 in
theorem w_c24 : (Jvm.Cond.code ({ cls := "java/math/BigInteger", name := "add", desc := "(Ljava/math/BigInteger;)Ljava/math/BigInteger;" } : Jvm.MethodName) jdk_2097_method_32_code (4 : Nat) (Option.some (Jvm.ClassFile.FieldType.object "java/math/BigInteger"))).before args0 about1 = true := code_word (m := ⟨10, 3⟩) (meth := k10m3) (c := k10c3) (by decide +kernel) rfl rfl rfl (by decide +kernel)
set_option maxRecDepth 65536 in
theorem w_c25 : (Jvm.Cond.code ({ cls := "java/math/BigInteger", name := "add", desc := "([I[I)[I" } : Jvm.MethodName) jdk_2097_method_35_code (9 : Nat) (Option.some (Jvm.ClassFile.FieldType.array Jvm.ClassFile.FieldType.int))).before args0 about1 = true := code_word (m := ⟨10, 4⟩) (meth := k10m4) (c := k10c4) (by decide +kernel) rfl rfl rfl (by decide +kernel)
set_option maxRecDepth 65536 in
theorem w_c26 : (Jvm.Cond.code ({ cls := "java/math/BigInteger", name := "compareTo", desc := "(Ljava/math/BigInteger;)I" } : Jvm.MethodName) jdk_2097_method_121_code (2 : Nat) (Option.some Jvm.ClassFile.FieldType.int)).before args0 about1 = true := code_word (m := ⟨10, 11⟩) (meth := k10m11) (c := k10c11) (by decide +kernel) rfl rfl rfl (by decide +kernel)
set_option maxRecDepth 65536 in
theorem w_c27 : (Jvm.Cond.code ({ cls := "java/math/BigInteger", name := "compareMagnitude", desc := "(Ljava/math/BigInteger;)I" } : Jvm.MethodName) jdk_2097_method_122_code (9 : Nat) (Option.some Jvm.ClassFile.FieldType.int)).before args0 about1 = true := code_word (m := ⟨10, 12⟩) (meth := k10m12) (c := k10c12) (by decide +kernel) rfl rfl rfl (by decide +kernel)
set_option maxRecDepth 65536 in
theorem w_c28 : (Jvm.Cond.code ({ cls := "java/math/BigInteger", name := "subtract", desc := "([I[I)[I" } : Jvm.MethodName) jdk_2097_method_39_code (8 : Nat) (Option.some (Jvm.ClassFile.FieldType.array Jvm.ClassFile.FieldType.int))).before args0 about1 = true := code_word (m := ⟨10, 5⟩) (meth := k10m5) (c := k10c5) (by decide +kernel) rfl rfl rfl (by decide +kernel)
def codes1 : List Jvm.Cond := [Jvm.Cond.code x code maxLocals ret, Jvm.Cond.code ({ cls := "com/example/pactum/pactum/admission/ExactSum", name := "<init>", desc := "(J)V" } : Jvm.MethodName) prog_25_method_2_code (3 : Nat) (Option.none : Option Jvm.ClassFile.FieldType), Jvm.Cond.code ({ cls := "java/lang/Object", name := "<init>", desc := "()V" } : Jvm.MethodName) object_method_1_code (1 : Nat) (Option.none : Option Jvm.ClassFile.FieldType), Jvm.Cond.code ({ cls := "com/example/pactum/pactum/admission/ExactSum", name := "<init>", desc := "()V" } : Jvm.MethodName) prog_25_method_1_code (1 : Nat) (Option.none : Option Jvm.ClassFile.FieldType), Jvm.Cond.code ({ cls := "com/example/pactum/pactum/admission/ExactSum", name := "add", desc := "(J)V" } : Jvm.MethodName) prog_25_method_10_code (5 : Nat) (Option.none : Option Jvm.ClassFile.FieldType), Jvm.Cond.code ({ cls := "com/example/pactum/pactum/admission/ExactSum", name := "set", desc := "(Lcom/example/pactum/pactum/admission/ExactSum;)V" } : Jvm.MethodName) prog_25_method_4_code (2 : Nat) (Option.none : Option Jvm.ClassFile.FieldType), Jvm.Cond.code ({ cls := "com/example/pactum/pactum/admission/ExactSum", name := "fitsLong", desc := "()Z" } : Jvm.MethodName) prog_25_method_5_code (1 : Nat) (Option.some Jvm.ClassFile.FieldType.boolean), Jvm.Cond.code ({ cls := "com/example/pactum/pactum/admission/ExactSum", name := "longValue", desc := "()J" } : Jvm.MethodName) prog_25_method_6_code (1 : Nat) (Option.some Jvm.ClassFile.FieldType.long), Jvm.Cond.code ({ cls := "com/example/pactum/pactum/admission/ExactSum", name := "compareTo", desc := "(Lcom/example/pactum/pactum/admission/ExactSum;)I" } : Jvm.MethodName) prog_25_method_9_code (2 : Nat) (Option.some Jvm.ClassFile.FieldType.int), Jvm.Cond.code ({ cls := "java/lang/Long", name := "compare", desc := "(JJ)I" } : Jvm.MethodName) jdk_35_method_42_code (4 : Nat) (Option.some Jvm.ClassFile.FieldType.int), Jvm.Cond.code ({ cls := "com/example/pactum/pactum/admission/ExactSum", name := "add", desc := "(JJ)V" } : Jvm.MethodName) prog_25_method_11_code (9 : Nat) (Option.none : Option Jvm.ClassFile.FieldType), Jvm.Cond.code ({ cls := "java/lang/Math", name := "multiplyHigh", desc := "(JJ)J" } : Jvm.MethodName) jdk_29_method_45_code (20 : Nat) (Option.some Jvm.ClassFile.FieldType.long), Jvm.Cond.code ({ cls := "com/example/pactum/pactum/admission/ExactSum", name := "value", desc := "()Ljava/math/BigInteger;" } : Jvm.MethodName) prog_25_method_7_code (1 : Nat) (Option.some (Jvm.ClassFile.FieldType.object "java/math/BigInteger")), Jvm.Cond.code ({ cls := "java/math/BigInteger", name := "valueOf", desc := "(J)Ljava/math/BigInteger;" } : Jvm.MethodName) jdk_2097_method_29_code (2 : Nat) (Option.some (Jvm.ClassFile.FieldType.object "java/math/BigInteger")), Jvm.Cond.code ({ cls := "java/math/BigInteger", name := "<init>", desc := "(J)V" } : Jvm.MethodName) jdk_2097_method_30_code (4 : Nat) (Option.none : Option Jvm.ClassFile.FieldType), Jvm.Cond.code ({ cls := "java/lang/Number", name := "<init>", desc := "()V" } : Jvm.MethodName) jdk_18_method_1_code (1 : Nat) (Option.none : Option Jvm.ClassFile.FieldType), Jvm.Cond.code ({ cls := "java/math/BigInteger", name := "multiply", desc := "(Ljava/math/BigInteger;)Ljava/math/BigInteger;" } : Jvm.MethodName) jdk_2097_method_40_code (2 : Nat) (Option.some (Jvm.ClassFile.FieldType.object "java/math/BigInteger")), Jvm.Cond.code ({ cls := "java/math/BigInteger", name := "multiply", desc := "(Ljava/math/BigInteger;ZZI)Ljava/math/BigInteger;" } : Jvm.MethodName) jdk_2097_method_42_code (9 : Nat) (Option.some (Jvm.ClassFile.FieldType.object "java/math/BigInteger")), Jvm.Cond.code ({ cls := "java/math/BigInteger", name := "multiplyToLen", desc := "([II[II[I)[I" } : Jvm.MethodName) jdk_2097_method_45_code (5 : Nat) (Option.some (Jvm.ClassFile.FieldType.array Jvm.ClassFile.FieldType.int)), Jvm.Cond.code ({ cls := "java/math/BigInteger", name := "multiplyToLenCheck", desc := "([II)V" } : Jvm.MethodName) jdk_2097_method_47_code (2 : Nat) (Option.none : Option Jvm.ClassFile.FieldType), Jvm.Cond.code ({ cls := "java/util/Objects", name := "requireNonNull", desc := "(Ljava/lang/Object;)Ljava/lang/Object;" } : Jvm.MethodName) jdk_31_method_10_code (1 : Nat) (Option.some (Jvm.ClassFile.FieldType.object "java/lang/Object")), Jvm.Cond.code ({ cls := "java/math/BigInteger", name := "implMultiplyToLen", desc := "([II[II[I)[I" } : Jvm.MethodName) jdk_2097_method_46_code (14 : Nat) (Option.some (Jvm.ClassFile.FieldType.array Jvm.ClassFile.FieldType.int)), Jvm.Cond.code ({ cls := "java/math/BigInteger", name := "trustedStripLeadingZeroInts", desc := "([I)[I" } : Jvm.MethodName) jdk_2097_method_140_code (3 : Nat) (Option.some (Jvm.ClassFile.FieldType.array Jvm.ClassFile.FieldType.int)), Jvm.Cond.code ({ cls := "java/math/BigInteger", name := "<init>", desc := "([II)V" } : Jvm.MethodName) jdk_2097_method_25_code (3 : Nat) (Option.none : Option Jvm.ClassFile.FieldType), Jvm.Cond.code ({ cls := "java/math/BigInteger", name := "add", desc := "(Ljava/math/BigInteger;)Ljava/math/BigInteger;" } : Jvm.MethodName) jdk_2097_method_32_code (4 : Nat) (Option.some (Jvm.ClassFile.FieldType.object "java/math/BigInteger")), Jvm.Cond.code ({ cls := "java/math/BigInteger", name := "add", desc := "([I[I)[I" } : Jvm.MethodName) jdk_2097_method_35_code (9 : Nat) (Option.some (Jvm.ClassFile.FieldType.array Jvm.ClassFile.FieldType.int)), Jvm.Cond.code ({ cls := "java/math/BigInteger", name := "compareTo", desc := "(Ljava/math/BigInteger;)I" } : Jvm.MethodName) jdk_2097_method_121_code (2 : Nat) (Option.some Jvm.ClassFile.FieldType.int), Jvm.Cond.code ({ cls := "java/math/BigInteger", name := "compareMagnitude", desc := "(Ljava/math/BigInteger;)I" } : Jvm.MethodName) jdk_2097_method_122_code (9 : Nat) (Option.some Jvm.ClassFile.FieldType.int), Jvm.Cond.code ({ cls := "java/math/BigInteger", name := "subtract", desc := "([I[I)[I" } : Jvm.MethodName) jdk_2097_method_39_code (8 : Nat) (Option.some (Jvm.ClassFile.FieldType.array Jvm.ClassFile.FieldType.int))]
set_option maxRecDepth 65536 in
theorem codes_eq : words1.filter isCode = codes1 := rfl
theorem w_codes : ∀ c ∈ words1.filter isCode, c.before args0 about1 = true := by
  rw [codes_eq]
  intro c hc
  simp only [codes1, List.mem_cons, List.not_mem_nil, or_false] at hc
  rcases hc with rfl | rfl | rfl | rfl | rfl | rfl | rfl | rfl | rfl | rfl | rfl | rfl | rfl | rfl | rfl | rfl | rfl | rfl | rfl | rfl | rfl | rfl | rfl | rfl | rfl | rfl | rfl | rfl | rfl
  · exact w_c0
  · exact w_c1
  · exact w_c2
  · exact w_c3
  · exact w_c4
  · exact w_c5
  · exact w_c6
  · exact w_c7
  · exact w_c8
  · exact w_c9
  · exact w_c10
  · exact w_c11
  · exact w_c12
  · exact w_c13
  · exact w_c14
  · exact w_c15
  · exact w_c16
  · exact w_c17
  · exact w_c18
  · exact w_c19
  · exact w_c20
  · exact w_c21
  · exact w_c22
  · exact w_c23
  · exact w_c24
  · exact w_c25
  · exact w_c26
  · exact w_c27
  · exact w_c28
set_option maxRecDepth 65536 in
theorem w_t1 : (words1.take 24).all (fun c => isCode c || c.before args0 about1) = true := by decide +kernel
set_option maxRecDepth 65536 in
theorem w_t2 : ((words1.drop 24).take 24).all (fun c => isCode c || c.before args0 about1) = true := by decide +kernel
set_option maxRecDepth 65536 in
theorem w_t3 : (((words1.drop 24).drop 24).take 24).all (fun c => isCode c || c.before args0 about1) = true := by decide +kernel
set_option maxRecDepth 65536 in
theorem w_t4 : ((((words1.drop 24).drop 24).drop 24).take 24).all (fun c => isCode c || c.before args0 about1) = true := by decide +kernel
set_option maxRecDepth 65536 in
theorem w_t5 : (((((words1.drop 24).drop 24).drop 24).drop 24).take 24).all (fun c => isCode c || c.before args0 about1) = true := by decide +kernel
set_option maxRecDepth 65536 in
theorem w_t6 : (((((words1.drop 24).drop 24).drop 24).drop 24).drop 24).all (fun c => isCode c || c.before args0 about1) = true := by decide +kernel
theorem w_tables : (allAtoms (Jvm.Cond.code x code maxLocals ret :: tables_1)).before args0 about1 = true := by
  rw [allAtoms_all]
  show words1.all (fun c => c.before args0 about1) = true
  refine all_split ?_ w_codes
  rw [← List.take_append_drop 24 words1, List.all_append, w_t1, ← List.take_append_drop 24 (words1.drop 24), List.all_append, w_t2, ← List.take_append_drop 24 ((words1.drop 24).drop 24), List.all_append, w_t3, ← List.take_append_drop 24 (((words1.drop 24).drop 24).drop 24), List.all_append, w_t4, ← List.take_append_drop 24 ((((words1.drop 24).drop 24).drop 24).drop 24), List.all_append, w_t5, w_t6]
  rfl
set_option maxRecDepth 65536 in
theorem w_rest : rest_1_c.before args0 about1 = true := by decide +kernel
set_option maxRecDepth 65536 in
theorem w_case : (Jvm.Cond.and given_1 narrow_1).before args0 about1 = true := by decide +kernel
theorem w_applies : (headSpec (Jvm.Cond.code x code maxLocals ret :: tables_1) room_1).applies x e0.platform about1 = true :=
  (Spec.applies_iff w_frames).mpr ⟨w_running, w_runnable, w_alone, w_named, w_hears, w_ripe, w_room, w_tables⟩
theorem atStart : AtStart classFile x code maxLocals ret World_1 tables_1 room_1 Calls_1 rest_1 Pre_1 launch0 p0 e0 about1 theMethod args0 below0 :=
  ⟨lists_1, trivial, launch0.admits_env _ _ _, launch0.least_env, fairChoices_fair.cas, fairChoices_fair.clock, w_frames, w_args, w_heap, w_applies, trivial, w_rest, w_case⟩
end start1
theorem witness_1 : WitnessClaimed_1 := ⟨start1.p0, start1.e0, start1.about1, start1.theMethod, start1.args0, start1.below0, start1.atStart⟩
end Jvm.Pilot.@@N@@
