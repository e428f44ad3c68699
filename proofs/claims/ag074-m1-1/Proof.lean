import JvmDerived
import JvmDerived.Pilot.@@N@@Statement
import JvmDerived.Pilot.@@N@@Code
set_option linter.unusedVariables false
set_option linter.unusedSimpArgs false
namespace Jvm.Pilot.@@N@@
open Jvm Jvm.ClassFile Sem Op Lib Jvm.Free Jvm.Stand Jvm.LawKit Jvm.RoadKit Bundle Jvm.Pilot.@@N@@.Jvm.D
abbrev own_Go (p : Program) (e : Env) (below : List Frame) (A B : State) : Prop := ∀ t, Steps p.tables e below A t → Steps p.tables e below B t
abbrev own_At (p : Program) (e : Env) (below : List Frame) (T : State) (m : MethodId) (pc : Nat) (L : Array Slot) (S : List Value) (t : State) : Prop := Steps p.tables e below (T.setTop (mkF m pc L S)) t
section OwnArr
variable {Z : State} {h h' : Heap} {a b : Addr} {ty : FieldType} {n i : Nat} {f : Nat → Value} {v : Value}
def own_Av (Z : State) (h : Heap) (a : Addr) (ty : FieldType) (n : Nat) (f : Nat → Value) : Prop := ∃ c : Cell, Arr Z h a c ty ∧ c.slots.size = n ∧ n < 2 ^ 31 ∧ ∀ j, j < n → c.slots[j]? = some (f j)
theorem own_Av.lt (F : own_Av Z h a ty n f) : a < h.size := by obtain ⟨c, A, -⟩ := F; exact A.lt
theorem own_Av.ext (F : own_Av Z h a ty n f) (E : Ext h h') : own_Av Z h' a ty n f := by obtain ⟨c, A, r⟩ := F; exact ⟨c, A.ext E, r⟩
theorem own_Av.other {sl : Nat} (F : own_Av Z h a ty n f) (W : Wr h h' b sl v) (q : a ≠ b) : own_Av Z h' a ty n f := by obtain ⟨c, A, r⟩ := F; exact ⟨c, A.other W q, r⟩
theorem own_Av.keep {ws : List Addr} (F : own_Av Z h a ty n f) (K : Keep h h' ws) (q : a ∉ ws) : own_Av Z h' a ty n f := by obtain ⟨c, A, r⟩ := F; exact ⟨c, ⟨K.2.1 a c A.1 q, A.2⟩, r⟩
theorem own_Av.congr {g : Nat → Value} (F : own_Av Z h a ty n f) (q : ∀ j, j < n → f j = g j) : own_Av Z h a ty n g := by obtain ⟨c, A, r1, r2, r3⟩ := F; exact ⟨c, A, r1, r2, fun j hj => by rw [r3 j hj, q j hj]⟩
theorem own_Av.new {k : ClassId} {z : Int32} (A : Arr Z h a (newA k ty z) ty) (hz : ¬ z < 0) (hn : z.toNatClampNeg = n) : own_Av Z h a ty n (fun _ => defaultValue ty) := by
  refine ⟨_, A, (sz_new _ _ _).trans hn, hn ▸ (back32 hz).2, fun j hj => ?_⟩
  simp [newA, hn, hj]
theorem own_Av.set (F : own_Av Z h a ty n f) (W : Wr h h' a i v) : own_Av Z h' a ty n (fun q => if q = i then v else f q) := by
  obtain ⟨c, A, r1, r2, r3⟩ := F
  refine ⟨_, A.same W, (sz_set _ _ _).trans r1, r2, fun j hj => ?_⟩
  have e : (c.setSlot i v).slots = c.slots.setIfInBounds i v := rfl
  rw [e, Array.getElem?_setIfInBounds]
  by_cases q : i = j
  · subst q
    simp [r1, hj]
  · have q' : ¬ j = i := fun z => q z.symm
    simp [q, q', r3 j hj]
end OwnArr
section OwnArrSteps
variable {p : Program} {l : Launch} {e : Env} {R : Room} {s : State} {m : MethodId} {args : Array Value} {below : List Frame} {meth : Method} {c : Code} {T : State} {locs : List Loc} {cells slots : Nat} {Z : State} {h : Heap} {a : Addr} {n i : Nat} {f : Nat → Value} {v : Value}
theorem own_in {c : Cell} {j : Int32} (r1 : c.slots.size = n) (h1 : ¬ j < 0) (h2 : j.toNatClampNeg = i) (h3 : i < n) : ¬ (j < 0 ∨ c.slots.size ≤ j.toNatClampNeg) := fun q => q.elim h1 fun z => by rw [r1, h2] at z; exact absurd h3 (Nat.not_lt.mpr z)
theorem own_iaload (X : Stand p l e R s m args below meth c T locs cells slots) (hx : p.tables.exec = Jvm.exec) (hZ : Z.Warmed39 s.vm) (eT : T.heap = h) (F : own_Av Z h a .int n f) {j : Int32} (h1 : ¬ j < 0) (h2 : j.toNatClampNeg = i) (h3 : i < n) (h4 : f i = v)
    {g : JFrame} (hg : g.method = m) {rest : List Value} (hs : g.stack = .int j :: .ref a :: rest) (hd : decode c.code g.pc = .ok (.iaload, 1)) : ∀ target, Steps p.tables e below (T.setTop { g with pc := g.pc + 1, stack := v :: rest }) target → Steps p.tables e below (T.setTop g) target := by
  obtain ⟨cl, A, r1, r2, r3⟩ := F
  intro t k
  exact X.iaload hx (by rw [eT]; exact A.1) (State.isArrayOf_alike hZ.alike A.2.1) A.2.2 (own_in r1 h1 h2 h3) (by rw [h2, r3 i h3, h4]) hg hs hd t k
theorem own_laload (X : Stand p l e R s m args below meth c T locs cells slots) (hx : p.tables.exec = Jvm.exec) (hZ : Z.Warmed39 s.vm) (eT : T.heap = h) (F : own_Av Z h a .long n f) {j : Int32} (h1 : ¬ j < 0) (h2 : j.toNatClampNeg = i) (h3 : i < n) (h4 : f i = v)
    {g : JFrame} (hg : g.method = m) {rest : List Value} (hs : g.stack = .int j :: .ref a :: rest) (hd : decode c.code g.pc = .ok (.laload, 1)) : ∀ target, Steps p.tables e below (T.setTop { g with pc := g.pc + 1, stack := v :: rest }) target → Steps p.tables e below (T.setTop g) target := by
  obtain ⟨cl, A, r1, r2, r3⟩ := F
  intro t k
  exact X.laload hx (by rw [eT]; exact A.1) (State.isArrayOf_alike hZ.alike A.2.1) A.2.2 (own_in r1 h1 h2 h3) (by rw [h2, r3 i h3, h4]) hg hs hd t k
theorem own_aaload {ty : FieldType} (hty : ty.isReference = true) (X : Stand p l e R s m args below meth c T locs cells slots) (hx : p.tables.exec = Jvm.exec) (hZ : Z.Warmed39 s.vm) (eT : T.heap = h) (F : own_Av Z h a ty n f) {j : Int32} (h1 : ¬ j < 0) (h2 : j.toNatClampNeg = i) (h3 : i < n) (h4 : f i = v)
    {g : JFrame} (hg : g.method = m) {rest : List Value} (hs : g.stack = .int j :: .ref a :: rest) (hd : decode c.code g.pc = .ok (.aaload, 1)) : ∀ target, Steps p.tables e below (T.setTop { g with pc := g.pc + 1, stack := v :: rest }) target → Steps p.tables e below (T.setTop g) target := by
  obtain ⟨cl, A, r1, r2, r3⟩ := F
  intro t k
  exact X.aaload hx (by rw [eT]; exact A.1) (State.isArrayOf_alike hZ.alike A.2.1) hty A.2.2 (own_in r1 h1 h2 h3) (by rw [h2, r3 i h3, h4]) hg hs hd t k
theorem own_caload (X : Stand p l e R s m args below meth c T locs cells slots) (hx : p.tables.exec = Jvm.exec) (hZ : Z.Warmed39 s.vm) (eT : T.heap = h) (F : own_Av Z h a .char n f) {j : Int32} (h1 : ¬ j < 0) (h2 : j.toNatClampNeg = i) (h3 : i < n) (h4 : f i = v)
    {g : JFrame} (hg : g.method = m) {rest : List Value} (hs : g.stack = .int j :: .ref a :: rest) (hd : decode c.code g.pc = .ok (.caload, 1)) : ∀ target, Steps p.tables e below (T.setTop { g with pc := g.pc + 1, stack := v :: rest }) target → Steps p.tables e below (T.setTop g) target := by
  obtain ⟨cl, A, r1, r2, r3⟩ := F
  intro t k
  exact X.caload hx (by rw [eT]; exact A.1) (State.isArrayOf_alike hZ.alike A.2.1) A.2.2 (own_in r1 h1 h2 h3) (by rw [h2, r3 i h3, h4]) hg hs hd t k
theorem own_alen {ty : FieldType} (X : Stand p l e R s m args below meth c T locs cells slots) (hx : p.tables.exec = Jvm.exec) (hZ : Z.Warmed39 s.vm) (eT : T.heap = h) (F : own_Av Z h a ty n f)
    {g : JFrame} (hg : g.method = m) {rest : List Value} (hs : g.stack = .ref a :: rest) (hd : decode c.code g.pc = .ok (.arraylength, 1)) : ∀ target, Steps p.tables e below (T.setTop { g with pc := g.pc + 1, stack := .int (Int32.ofNat n) :: rest }) target → Steps p.tables e below (T.setTop g) target := by
  obtain ⟨cl, A, r1, r2, r3⟩ := F
  intro t k
  refine X.arraylength hx (by rw [eT]; exact A.1) (State.isArrayOf_alike hZ.alike A.2.1) hg hs hd t ?_
  rw [r1]
  exact k
theorem own_iastore (X : Stand p l e R s m args below meth c T locs cells slots) (hx : p.tables.exec = Jvm.exec) (hZ : Z.Warmed39 s.vm) (eT : T.heap = h) (F : own_Av Z h a .int n f) {j x : Int32} (h1 : ¬ j < 0) (h2 : j.toNatClampNeg = i) (h3 : i < n)
    {g : JFrame} (hg : g.method = m) {rest : List Value} (hs : g.stack = .int x :: .int j :: .ref a :: rest) (hd : decode c.code g.pc = .ok (.iastore, 1)) :
    ∃ T' h', Stand p l e R s m args below meth c T' (locs ++ [⟨a, i⟩]) cells slots ∧ T'.heap = h' ∧ Wr h h' a i (.int x) ∧ own_Av Z h' a .int n (fun q => if q = i then .int x else f q) ∧ ∀ target, Steps p.tables e below (T'.setTop { g with pc := g.pc + 1, stack := rest }) target → Steps p.tables e below (T.setTop g) target := by
  have F0 := F
  obtain ⟨cl, A, r1, r2, r3⟩ := F
  obtain ⟨T', h', X', e', W', st'⟩ := stI X hx hZ eT A (own_in r1 h1 h2 h3) hg hs hd
  rw [h2] at X' W'
  exact ⟨T', h', X', e', W', F0.set W', st'⟩
theorem own_lastore (X : Stand p l e R s m args below meth c T locs cells slots) (hx : p.tables.exec = Jvm.exec) (hZ : Z.Warmed39 s.vm) (eT : T.heap = h) (F : own_Av Z h a .long n f) {j : Int32} {x : Int64} (h1 : ¬ j < 0) (h2 : j.toNatClampNeg = i) (h3 : i < n)
    {g : JFrame} (hg : g.method = m) {rest : List Value} (hs : g.stack = .long x :: .int j :: .ref a :: rest) (hd : decode c.code g.pc = .ok (.lastore, 1)) :
    ∃ T' h', Stand p l e R s m args below meth c T' (locs ++ [⟨a, i⟩]) cells slots ∧ T'.heap = h' ∧ Wr h h' a i (.long x) ∧ own_Av Z h' a .long n (fun q => if q = i then .long x else f q) ∧ ∀ target, Steps p.tables e below (T'.setTop { g with pc := g.pc + 1, stack := rest }) target → Steps p.tables e below (T.setTop g) target := by
  have F0 := F
  obtain ⟨cl, A, r1, r2, r3⟩ := F
  obtain ⟨T', h', X', e', W', st'⟩ := stJ X hx hZ eT A (own_in r1 h1 h2 h3) hg hs hd
  rw [h2] at X' W'
  exact ⟨T', h', X', e', W', F0.set W', st'⟩
end OwnArrSteps
section OwnCp
variable {p : Program} {l : Launch} {e : Env} {R : Room} {s : State} {m : MethodId} {args : Array Value} {below : List Frame} {meth : Method} {c : Code} {T : State} {locs : List Loc} {cells slots : Nat} {Z : State} {h : Heap} {a b : Addr} {n n' i j k : Nat} {f f' : Nat → Value} {v : Value}
theorem own_nat32 {n : Nat} (h : n < 2 ^ 31) : (Int32.ofNat n).toNatClampNeg = n ∧ ¬ Int32.ofNat n < 0 := by
  have e : (Int32.ofNat n).toInt = n := Int32.toInt_ofNat_small h
  have e0 : (0 : Int32).toInt = 0 := rfl
  refine ⟨?_, ?_⟩
  · show (Int32.ofNat n).toInt.toNat = n
    rw [e]; rfl
  · rw [Int32.lt_iff_toInt_lt, e, e0]
    omega
theorem own_Av.arv {ty : FieldType} (F : own_Av Z h a ty n f) (d : Value) (hf : ∀ q, q < n → fits ty (f q) = true) : ∃ k, Arv Z h a k ty (Int32.ofNat n) ((List.range n).map f) d := by
  obtain ⟨cl, A, r1, r2, r3⟩ := F
  have hg : ∀ q, q < n → ((List.range n).map f).getD q d = f q := fun q hq => by simp [List.getD, hq]
  refine ⟨cl.cls, cl, A, rfl, ?_, (own_nat32 r2).2, fun q hq => ?_, fun q hq => ?_⟩
  · rw [r1, (own_nat32 r2).1]
  · rw [r1] at hq
    rw [r3 q hq, hg q hq]
  · rw [r1] at hq
    rw [hg q hq]; exact hf q hq
theorem own_Av.ofArv {ty : FieldType} {kc : ClassId} {vs : List Value} {d : Value} {g : Nat → Value} (hn : n < 2 ^ 31) (F : Arv Z h a kc ty (Int32.ofNat n) vs d) (hg : ∀ q, q < n → vs.getD q d = g q) : own_Av Z h a ty n g := by
  obtain ⟨cl, A, r0, r1, r2, H, G⟩ := F
  rw [(own_nat32 hn).1] at r1
  exact ⟨cl, A, r1, hn, fun q hq => by rw [H q (by rw [r1]; exact hq), hg q hq]⟩
theorem own_Av.small {ty : FieldType} (F : own_Av Z h a ty n f) : n < 2 ^ 31 := by obtain ⟨cl, A, r1, r2, r3⟩ := F; exact r2
theorem own_splice {f g : Nat → Value} {d : Value} {i j k n n' : Nat} (h4 : i + k ≤ n) (h5 : j + k ≤ n') (q : Nat) (hq : q < n') :
    (((List.range n').map g).take j ++ ((List.range k).map fun z => ((List.range n).map f).getD (i + z) d) ++ ((List.range n').map g).drop (j + k)).getD q d = if j ≤ q ∧ q < j + k then f (i + (q - j)) else g q := by
  have e1 : (((List.range n').map g).take j).length = j := by simp; omega
  have e2 : ((List.range k).map fun z => ((List.range n).map f).getD (i + z) d).length = k := by simp
  have e3 : (((List.range n').map g).take j ++ ((List.range k).map fun z => ((List.range n).map f).getD (i + z) d)).length = j + k := by rw [List.length_append, e1, e2]
  simp only [List.getD_eq_getElem?_getD] at e2 e3 ⊢
  by_cases q1 : q < j
  · rw [if_neg (by omega), List.getElem?_append_left (by rw [e3]; omega), List.getElem?_append_left (by rw [e1]; exact q1), List.getElem?_take_of_lt q1]
    simp [hq]
  · by_cases q2 : q < j + k
    · rw [if_pos ⟨by omega, q2⟩, List.getElem?_append_left (by rw [e3]; exact q2), List.getElem?_append_right (by rw [e1]; omega), e1]
      have z1 : q - j < k := by omega
      have z2 : i + (q - j) < n := by omega
      simp [z1, z2]
    · rw [if_neg (by omega), List.getElem?_append_right (by rw [e3]; omega), e3, List.getElem?_drop]
      have z1 : j + k + (q - (j + k)) = q := by omega
      rw [z1]
      simp [hq]
theorem own_cp {ty : FieldType} {a0 : Array Value} {own : String} {index : Nat} {n0 : Nat} (X : Stand p l e R s m args below meth c T locs cells slots) (hx : p.tables.exec = Jvm.exec) (hZ : Z.Warmed39 s.vm) (hown : s.vm.findClass own = some m.cls)
    (w1 : (Cond.methodLink own index Jvm.Stand.acN).before a0 Z = true) (w2 : (Cond.native Jvm.Stand.acN).before a0 Z = true) (w3 : (Cond.static Jvm.Stand.acN).before a0 Z = true) (w4 : (Cond.initialized "java/lang/System").before a0 Z = true) (eT : T.heap = h)
    (hty : refKind ty = false) (A : own_Av Z h a ty n f) (B : own_Av Z h b ty n' f') (fa : ∀ q, q < n → fits ty (f q) = true) (fb : ∀ q, q < n' → fits ty (f' q) = true)
    {sp dp nn : Int32} (h1 : ¬ sp < 0) (h1' : sp.toNatClampNeg = i) (h2 : ¬ dp < 0) (h2' : dp.toNatClampNeg = j) (h3 : ¬ nn < 0) (h3' : nn.toNatClampNeg = k) (h4 : i + k ≤ n) (h5 : j + k ≤ n') (N : Fr n0 locs) (ge : n0 ≤ b)
    {g : JFrame} (hg : g.method = m) (hsize : g.locals.size = c.maxLocals) {rest : List Value} (hs : g.stack = .int nn :: .int dp :: .ref b :: .int sp :: .ref a :: rest) (hd : decode c.code g.pc = .ok (.invokestatic index, 3))
    (hf : 1 ≤ R.frames) {W : Nat} (hW : 2 * g.monitorRoom + (rest.map fun v => v.category).sum ≤ W) (hlo : W + 18 ≤ R.locals) :
    ∃ T' h' L, Stand p l e R s m args below meth c T' L cells slots ∧ T'.heap = h' ∧ Fr n0 L ∧ Keep h h' [b] ∧ own_Av Z h' b ty n' (fun q => if j ≤ q ∧ q < j + k then f (i + (q - j)) else f' q) ∧
      ∀ target, Steps p.tables e below (T'.setTop { g with pc := g.pc + 3, stack := rest }) target → Steps p.tables e below (T.setTop g) target := by
  have sa := A.small
  have sb := B.small
  obtain ⟨ka, A'⟩ := A.arv (.int 0) fa
  obtain ⟨kb, B'⟩ := B.arv (.int 0) fb
  obtain ⟨T', h', L, X', e', N', K', V', st'⟩ := cpA X hx hZ hown w1 w2 w3 w4 eT A' B' (Or.inl ⟨rfl, hty⟩) h1 h2 h3 (by rw [h1', h3', (own_nat32 sa).1]; exact h4) (by rw [h2', h3', (own_nat32 sb).1]; exact h5) rfl (by rw [h2', h3']; simpa using h5) N ge hg hsize hs hd hf hW (by
    have q : nativeFrameWords "java/lang/System" "arraycopy" 5 = 7 := by decide
    rw [q]; exact hlo)
  rw [h1', h2', h3'] at V'
  exact ⟨T', h', L, X', e', N', K', own_Av.ofArv sb V' (fun q hq => own_splice h4 h5 q hq), st'⟩
end OwnCp
section OwnRef
variable {Z : State} {h h' : Heap} {a b y : Addr} {ty : FieldType} {C : String} {n i : Nat} {f : Nat → Value} {v : Value}
def own_Ra (Z : State) (h : Heap) (a : Addr) (ty : FieldType) (C : String) (n : Nat) (f : Nat → Value) : Prop := ∃ c : Cell, Arr Z h a c (.array ty) ∧ OvrA Z c.cls ty C ∧ c.slots.size = n ∧ n < 2 ^ 31 ∧ ∀ j, j < n → c.slots[j]? = some (f j)
theorem own_Ra.lt (F : own_Ra Z h a ty C n f) : a < h.size := by obtain ⟨c, A, -⟩ := F; exact A.lt
theorem own_Ra.ext (F : own_Ra Z h a ty C n f) (E : Ext h h') : own_Ra Z h' a ty C n f := by obtain ⟨c, A, r⟩ := F; exact ⟨c, A.ext E, r⟩
theorem own_Ra.other {sl : Nat} (F : own_Ra Z h a ty C n f) (W : Wr h h' b sl v) (q : a ≠ b) : own_Ra Z h' a ty C n f := by obtain ⟨c, A, r⟩ := F; exact ⟨c, A.other W q, r⟩
theorem own_Ra.keep {ws : List Addr} (F : own_Ra Z h a ty C n f) (K : Keep h h' ws) (q : a ∉ ws) : own_Ra Z h' a ty C n f := by obtain ⟨c, A, r⟩ := F; exact ⟨c, ⟨K.2.1 a c A.1 q, A.2⟩, r⟩
theorem own_Ra.av (F : own_Ra Z h a ty C n f) : own_Av Z h a (.array ty) n f := by obtain ⟨c, A, -, r⟩ := F; exact ⟨c, A, r⟩
theorem own_Ra.congr {g : Nat → Value} (F : own_Ra Z h a ty C n f) (q : ∀ j, j < n → f j = g j) : own_Ra Z h a ty C n g := by obtain ⟨c, A, r0, r1, r2, r3⟩ := F; exact ⟨c, A, r0, r1, r2, fun j hj => by rw [r3 j hj, q j hj]⟩
theorem own_Ra.new {k : ClassId} {z : Int32} (A : Arr Z h a (newA k (.array ty) z) (.array ty)) (O : OvrA Z k ty C) (hz : ¬ z < 0) (hn : z.toNatClampNeg = n) : own_Ra Z h a ty C n (fun _ => .null) := by
  refine ⟨_, A, O, (sz_new _ _ _).trans hn, hn ▸ (back32 hz).2, fun j hj => ?_⟩
  simp [newA, hn, hj, defaultValue]
theorem own_Ra.set (F : own_Ra Z h a ty C n f) (W : Wr h h' a i v) : own_Ra Z h' a ty C n (fun q => if q = i then v else f q) := by
  obtain ⟨c, A, r0, r1, r2, r3⟩ := F
  refine ⟨_, A.same W, r0, (sz_set _ _ _).trans r1, r2, fun j hj => ?_⟩
  have e : (c.setSlot i v).slots = c.slots.setIfInBounds i v := rfl
  rw [e, Array.getElem?_setIfInBounds]
  by_cases q : i = j
  · subst q
    simp [r1, hj]
  · have q' : ¬ j = i := fun z => q z.symm
    simp [q, q', r3 j hj]
end OwnRef
section OwnRefSteps
variable {p : Program} {l : Launch} {e : Env} {R : Room} {s : State} {m : MethodId} {args : Array Value} {below : List Frame} {meth : Method} {c : Code} {T : State} {locs : List Loc} {cells slots : Nat} {Z : State} {h : Heap} {a y : Addr} {ty : FieldType} {C : String} {n i : Nat} {f : Nat → Value} {v : Value}
theorem own_aastore (X : Stand p l e R s m args below meth c T locs cells slots) (hx : p.tables.exec = Jvm.exec) (hZ : Z.Warmed39 s.vm) (eT : T.heap = h) (F : own_Ra Z h a ty C n f) (E : Exa Z h y C) {j : Int32} (h1 : ¬ j < 0) (h2 : j.toNatClampNeg = i) (h3 : i < n)
    {g : JFrame} (hg : g.method = m) {rest : List Value} (hs : g.stack = .ref y :: .int j :: .ref a :: rest) (hd : decode c.code g.pc = .ok (.aastore, 1)) :
    ∃ T' h', Stand p l e R s m args below meth c T' (locs ++ [⟨a, i⟩]) cells slots ∧ T'.heap = h' ∧ Wr h h' a i (.ref y) ∧ own_Ra Z h' a ty C n (fun q => if q = i then .ref y else f q) ∧ ∀ target, Steps p.tables e below (T'.setTop { g with pc := g.pc + 1, stack := rest }) target → Steps p.tables e below (T.setTop g) target := by
  have F0 := F
  obtain ⟨cl, A, r0, r1, r2, r3⟩ := F
  obtain ⟨T', h', X', e', W', st'⟩ := stR X hx hZ eT A (own_in r1 h1 h2 h3) rfl (Sto.ofVA A rfl r0 (Ins.self E)) hg hs hd
  rw [h2] at X' W'
  exact ⟨T', h', X', e', W', F0.set W', st'⟩
end OwnRefSteps

def own_mn (x y : Int32) : Int32 := if y < x then y else x
def own_max (x y : Int32) : Int32 := if x < y then y else x
def own_st (a b c : Int32) : Nat → Int32 := fun q => if q = 1 then a else if q = 2 then b else if q = 3 then c else 0
theorem own_nd {L : List Addr} (h : L.Nodup) (i j : Nat) {x y : Addr} (hx : L[i]? = some x) (hy : L[j]? = some y) (hij : i < j) : x ≠ y := by
  obtain ⟨hi, rfl⟩ := List.getElem?_eq_some_iff.mp hx
  obtain ⟨hj, rfl⟩ := List.getElem?_eq_some_iff.mp hy
  exact (List.pairwise_iff_getElem.mp h) i j hi hj hij
theorem own_mn_r {n k : Nat} {u : Int32} (hn : n < 2 ^ 31) (hu : ¬ u < 0) (hk : u.toNatClampNeg = k) (h : k < n) : own_mn (Int32.ofNat n) u = u := by
  have e : (Int32.ofNat n).toInt = n := Int32.toInt_ofNat_small hn
  have z := nat_of hu
  unfold own_mn
  rw [if_pos]
  rw [Int32.lt_iff_toInt_lt]; omega
def own_VS (Z : State) (h : Heap) (n0 : Nat) (a : Addr) (uf : Int32) (nx T F : Nat → Int32) : Prop := Exa Z h a "com/example/ranked_text_search/rankedtextsearch/MemoryTermVectors" ∧ Fld Z h a "com/example/ranked_text_search/rankedtextsearch/MemoryTermVectors" "from" "I" (.int uf) ∧ ∃ bs bn bt bf t0 f0 : Addr, (∀ x ∈ [a, bs, bn, bt, bf, t0, f0], n0 ≤ x) ∧ [a, bs, bn, bt, bf, t0, f0].Nodup ∧ Fld Z h a "com/example/ranked_text_search/rankedtextsearch/MemoryTermVectors" "starts" "[I" (.ref bs) ∧ Fld Z h a "com/example/ranked_text_search/rankedtextsearch/MemoryTermVectors" "next" "[I" (.ref bn) ∧ Fld Z h a "com/example/ranked_text_search/rankedtextsearch/MemoryTermVectors" "termNumbers" "[[I" (.ref bt) ∧ Fld Z h a "com/example/ranked_text_search/rankedtextsearch/MemoryTermVectors" "frequencies" "[[I" (.ref bf) ∧ own_Av Z h bs .int 4 (fun q => .int (own_st 1 3 4 q)) ∧ own_Av Z h bn .int 3 (fun q => .int (nx q)) ∧ own_Av Z h bt (.array .int) 1 (fun _ => .ref t0) ∧ own_Av Z h t0 .int 4 (fun q => .int (T q)) ∧ own_Av Z h bf (.array .int) 1 (fun _ => .ref f0) ∧ own_Av Z h f0 .int 4 (fun q => .int (F q))
theorem own_VS.keep0 {Z : State} {h h' : Heap} {n0 : Nat} {a : Addr} {uf : Int32} {nx T F : Nat → Int32} (V : own_VS Z h n0 a uf nx T F) (K : Keep h h' []) : own_VS Z h' n0 a uf nx T F := by
  obtain ⟨e1, e2, bs, bn, bt, bf, t0, f0, m0, m1, m2, m3, m4, m5, m6, m7, m8, m9, m10, m11⟩ := V
  exact ⟨e1.keep K, e2.keep K nin0, bs, bn, bt, bf, t0, f0, m0, m1, m2.keep K nin0, m3.keep K nin0, m4.keep K nin0, m5.keep K nin0, m6.keep K nin0, m7.keep K nin0, m8.keep K nin0, m9.keep K nin0, m10.keep K nin0, m11.keep K nin0⟩
theorem own_VS.to {Z : State} {h : Heap} {n0 : Nat} {a : Addr} {uf : Int32} {nx T F nx' T' F' : Nat → Int32} (V : own_VS Z h n0 a uf nx T F) (h1 : ∀ q, nx q = nx' q) (h2 : ∀ q, T q = T' q) (h3 : ∀ q, F q = F' q) : own_VS Z h n0 a uf nx' T' F' := by
  have e1 : nx = nx' := funext h1
  have e2 : T = T' := funext h2
  have e3 : F = F' := funext h3
  subst e1 e2 e3
  exact V
def own_VB (Z : State) (h : Heap) (n0 : Nat) (a : Addr) (uf : Int32) (nx T F : Nat → Int32) : Prop := Exa Z h a "com/example/ranked_text_search/rankedtextsearch/MemoryTermVectors" ∧ Fld Z h a "com/example/ranked_text_search/rankedtextsearch/MemoryTermVectors" "from" "I" (.int uf) ∧ ∃ bs bn bt bf t0 t1 f0 f1 : Addr, (∀ x ∈ [a, bs, bn, bt, bf, t0, t1, f0, f1], n0 ≤ x) ∧ [a, bs, bn, bt, bf, t0, t1, f0, f1].Nodup ∧ Fld Z h a "com/example/ranked_text_search/rankedtextsearch/MemoryTermVectors" "starts" "[I" (.ref bs) ∧ Fld Z h a "com/example/ranked_text_search/rankedtextsearch/MemoryTermVectors" "next" "[I" (.ref bn) ∧ Fld Z h a "com/example/ranked_text_search/rankedtextsearch/MemoryTermVectors" "termNumbers" "[[I" (.ref bt) ∧ Fld Z h a "com/example/ranked_text_search/rankedtextsearch/MemoryTermVectors" "frequencies" "[[I" (.ref bf) ∧ own_Av Z h bs .int 4 (fun q => .int (own_st 16383 16385 16386 q)) ∧ own_Av Z h bn .int 3 (fun q => .int (nx q)) ∧ own_Av Z h bt (.array .int) 2 (fun q => .ref (if q = 0 then t0 else t1)) ∧ own_Av Z h t0 .int 16384 (fun q => .int (T q)) ∧ own_Av Z h t1 .int 2 (fun q => .int (T (16384 + q))) ∧ own_Av Z h bf (.array .int) 2 (fun q => .ref (if q = 0 then f0 else f1)) ∧ own_Av Z h f0 .int 16384 (fun q => .int (F q)) ∧ own_Av Z h f1 .int 2 (fun q => .int (F (16384 + q)))
theorem own_VB.keep0 {Z : State} {h h' : Heap} {n0 : Nat} {a : Addr} {uf : Int32} {nx T F : Nat → Int32} (V : own_VB Z h n0 a uf nx T F) (K : Keep h h' []) : own_VB Z h' n0 a uf nx T F := by
  obtain ⟨e1, e2, bs, bn, bt, bf, t0, t1, f0, f1, m0, m1, m2, m3, m4, m5, m6, m7, m8, m9, m10, m11, m12, m13⟩ := V
  exact ⟨e1.keep K, e2.keep K nin0, bs, bn, bt, bf, t0, t1, f0, f1, m0, m1, m2.keep K nin0, m3.keep K nin0, m4.keep K nin0, m5.keep K nin0, m6.keep K nin0, m7.keep K nin0, m8.keep K nin0, m9.keep K nin0, m10.keep K nin0, m11.keep K nin0, m12.keep K nin0, m13.keep K nin0⟩
theorem own_VB.to {Z : State} {h : Heap} {n0 : Nat} {a : Addr} {uf : Int32} {nx T F nx' T' F' : Nat → Int32} (V : own_VB Z h n0 a uf nx T F) (h1 : ∀ q, nx q = nx' q) (h2 : ∀ q, T q = T' q) (h3 : ∀ q, F q = F' q) : own_VB Z h n0 a uf nx' T' F' := by
  have e1 : nx = nx' := funext h1
  have e2 : T = T' := funext h2
  have e3 : F = F' := funext h3
  subst e1 e2 e3
  exact V

theorem own_ef1_II (m : MethodId) (x0 : Int32) (x1 : Int32) : entryFrame m #[(.int x0), (.int x1)] 2 = mkF m 0 #[iv x0, iv x1] [] := by first | (simp [entryFrame, mkF, argsToLocals, Value.category]; done) | rfl
theorem d1_0 : decode jdk_29_method_69_code 0 = .ok (.iload_n 0, 1) := by decide +kernel
theorem d1_1 : decode jdk_29_method_69_code 1 = .ok (.iload_n 1, 1) := by decide +kernel
theorem d1_2 : decode jdk_29_method_69_code 2 = .ok (.if_icmp .gt 7, 3) := by decide +kernel
theorem d1_9 : decode jdk_29_method_69_code 9 = .ok (.iload_n 1, 1) := by decide +kernel
theorem d1_10 : decode jdk_29_method_69_code 10 = .ok (.ireturn, 1) := by decide +kernel
theorem d1_5 : decode jdk_29_method_69_code 5 = .ok (.iload_n 0, 1) := by decide +kernel
theorem d1_6 : decode jdk_29_method_69_code 6 = .ok (.goto 4, 3) := by decide +kernel
theorem own_ef2_II (m : MethodId) (x0 : Int32) (x1 : Int32) : entryFrame m #[(.int x0), (.int x1)] 2 = mkF m 0 #[iv x0, iv x1] [] := by first | (simp [entryFrame, mkF, argsToLocals, Value.category]; done) | rfl
theorem d2_0 : decode jdk_29_method_65_code 0 = .ok (.iload_n 0, 1) := by decide +kernel
theorem d2_1 : decode jdk_29_method_65_code 1 = .ok (.iload_n 1, 1) := by decide +kernel
theorem d2_2 : decode jdk_29_method_65_code 2 = .ok (.if_icmp .lt 7, 3) := by decide +kernel
theorem d2_9 : decode jdk_29_method_65_code 9 = .ok (.iload_n 1, 1) := by decide +kernel
theorem d2_10 : decode jdk_29_method_65_code 10 = .ok (.ireturn, 1) := by decide +kernel
theorem d2_5 : decode jdk_29_method_65_code 5 = .ok (.iload_n 0, 1) := by decide +kernel
theorem d2_6 : decode jdk_29_method_65_code 6 = .ok (.goto 4, 3) := by decide +kernel
theorem own_pn0 : plainName "java/lang/Record" = true := by first | (simp [plainName, overriddenIn]; done) | decide +kernel
theorem own_ef11_R (m : MethodId) (x0 : Addr) : entryFrame m #[(.ref x0)] 1 = mkF m 0 #[rv x0] [] := by first | (simp [entryFrame, mkF, argsToLocals, Value.category]; done) | rfl
theorem d11_0 : decode jdk_30_method_1_code 0 = .ok (.aload_n 0, 1) := by decide +kernel
theorem d11_1 : decode jdk_30_method_1_code 1 = .ok (.invokespecial 1, 3) := by decide +kernel
theorem d11_4 : decode jdk_30_method_1_code 4 = .ok (.return_, 1) := by decide +kernel
theorem own_pn1 : plainName "java/util/Arrays" = true := by first | (simp [plainName, overriddenIn]; done) | decide +kernel
theorem own_ef6_RI (m : MethodId) (x0 : Addr) (x1 : Int32) : entryFrame m #[(.ref x0), (.int x1)] 3 = mkF m 0 #[rv x0, iv x1, .unset] [] := by first | (simp [entryFrame, mkF, argsToLocals, Value.category]; done) | rfl
theorem d6_0 : decode jdk_65_method_123_code 0 = .ok (.iload_n 1, 1) := by decide +kernel
theorem d6_1 : decode jdk_65_method_123_code 1 = .ok (.aload_n 0, 1) := by decide +kernel
theorem d6_2 : decode jdk_65_method_123_code 2 = .ok (.arraylength, 1) := by decide +kernel
theorem d6_3 : decode jdk_65_method_123_code 3 = .ok (.if_icmp .ne 11, 3) := by decide +kernel
theorem d6_14 : decode jdk_65_method_123_code 14 = .ok (.iload_n 1, 1) := by decide +kernel
theorem d6_15 : decode jdk_65_method_123_code 15 = .ok (.newarray .int, 2) := by decide +kernel
theorem d6_17 : decode jdk_65_method_123_code 17 = .ok (.astore_n 2, 1) := by decide +kernel
theorem d6_18 : decode jdk_65_method_123_code 18 = .ok (.aload_n 0, 1) := by decide +kernel
theorem d6_19 : decode jdk_65_method_123_code 19 = .ok (.iconst 0, 1) := by decide +kernel
theorem d6_20 : decode jdk_65_method_123_code 20 = .ok (.aload_n 2, 1) := by decide +kernel
theorem d6_21 : decode jdk_65_method_123_code 21 = .ok (.iconst 0, 1) := by decide +kernel
theorem d6_22 : decode jdk_65_method_123_code 22 = .ok (.aload_n 0, 1) := by decide +kernel
theorem d6_23 : decode jdk_65_method_123_code 23 = .ok (.arraylength, 1) := by decide +kernel
theorem d6_24 : decode jdk_65_method_123_code 24 = .ok (.iload_n 1, 1) := by decide +kernel
theorem d6_25 : decode jdk_65_method_123_code 25 = .ok (.invokestatic 304, 3) := by decide +kernel
theorem own_pd0 : parseMethodDescriptor "(II)I" = some ⟨[.int, .int], some .int⟩ := by decide +kernel
theorem d6_28 : decode jdk_65_method_123_code 28 = .ok (.invokestatic 150, 3) := by decide +kernel
theorem d6_31 : decode jdk_65_method_123_code 31 = .ok (.aload_n 2, 1) := by decide +kernel
theorem d6_32 : decode jdk_65_method_123_code 32 = .ok (.areturn, 1) := by decide +kernel
theorem own_pn2 : plainName "com/example/ranked_text_search/rankedtextsearch/MemoryTermVectors" = true := by first | (simp [plainName, overriddenIn]; done) | decide +kernel
theorem own_ef5_I (m : MethodId) (x0 : Int32) : entryFrame m #[(.int x0)] 3 = mkF m 0 #[iv x0, .unset, .unset] [] := by first | (simp [entryFrame, mkF, argsToLocals, Value.category]; done) | rfl
theorem d5_0 : decode prog_50_method_2_code 0 = .ok (.iload_n 0, 1) := by decide +kernel
theorem d5_1 : decode prog_50_method_2_code 1 = .ok (.i2l, 1) := by decide +kernel
theorem d5_2 : decode prog_50_method_2_code 2 = .ok (.ldc2_w 41, 3) := by decide +kernel
theorem d5_5 : decode prog_50_method_2_code 5 = .ok (.ladd, 1) := by decide +kernel
theorem d5_6 : decode prog_50_method_2_code 6 = .ok (.lconst 1, 1) := by decide +kernel
theorem d5_7 : decode prog_50_method_2_code 7 = .ok (.lsub, 1) := by decide +kernel
theorem d5_8 : decode prog_50_method_2_code 8 = .ok (.bipush 14, 2) := by decide +kernel
theorem d5_10 : decode prog_50_method_2_code 10 = .ok (.lushr, 1) := by decide +kernel
theorem d5_11 : decode prog_50_method_2_code 11 = .ok (.l2i, 1) := by decide +kernel
theorem d5_12 : decode prog_50_method_2_code 12 = .ok (.anewarray 43, 3) := by decide +kernel
theorem d5_15 : decode prog_50_method_2_code 15 = .ok (.astore_n 1, 1) := by decide +kernel
theorem d5_16 : decode prog_50_method_2_code 16 = .ok (.iconst 0, 1) := by decide +kernel
theorem d5_17 : decode prog_50_method_2_code 17 = .ok (.istore_n 2, 1) := by decide +kernel
theorem d5_18 : decode prog_50_method_2_code 18 = .ok (.iload_n 2, 1) := by decide +kernel
theorem d5_19 : decode prog_50_method_2_code 19 = .ok (.aload_n 1, 1) := by decide +kernel
theorem d5_20 : decode prog_50_method_2_code 20 = .ok (.arraylength, 1) := by decide +kernel
theorem d5_21 : decode prog_50_method_2_code 21 = .ok (.if_icmp .ge 26, 3) := by decide +kernel
theorem d5_24 : decode prog_50_method_2_code 24 = .ok (.aload_n 1, 1) := by decide +kernel
theorem d5_25 : decode prog_50_method_2_code 25 = .ok (.iload_n 2, 1) := by decide +kernel
theorem d5_26 : decode prog_50_method_2_code 26 = .ok (.sipush 16384, 3) := by decide +kernel
theorem d5_29 : decode prog_50_method_2_code 29 = .ok (.iload_n 0, 1) := by decide +kernel
theorem d5_30 : decode prog_50_method_2_code 30 = .ok (.iload_n 2, 1) := by decide +kernel
theorem d5_31 : decode prog_50_method_2_code 31 = .ok (.bipush 14, 2) := by decide +kernel
theorem d5_33 : decode prog_50_method_2_code 33 = .ok (.ishl, 1) := by decide +kernel
theorem d5_34 : decode prog_50_method_2_code 34 = .ok (.isub, 1) := by decide +kernel
theorem d5_35 : decode prog_50_method_2_code 35 = .ok (.invokestatic 44, 3) := by decide +kernel
theorem d5_38 : decode prog_50_method_2_code 38 = .ok (.newarray .int, 2) := by decide +kernel
theorem d5_40 : decode prog_50_method_2_code 40 = .ok (.aastore, 1) := by decide +kernel
theorem d5_41 : decode prog_50_method_2_code 41 = .ok (.iinc 2 1, 3) := by decide +kernel
theorem d5_44 : decode prog_50_method_2_code 44 = .ok (.goto (-26), 3) := by decide +kernel
theorem d5_47 : decode prog_50_method_2_code 47 = .ok (.aload_n 1, 1) := by decide +kernel
theorem d5_48 : decode prog_50_method_2_code 48 = .ok (.areturn, 1) := by decide +kernel
theorem own_ef3_RNIRI (m : MethodId) (x0 : Addr) (x2 : Int32) (x3 : Addr) (x4 : Int32) : entryFrame m #[(.ref x0), .null, (.int x2), (.ref x3), (.int x4)] 6 = mkF m 0 #[rv x0, .val .null, iv x2, rv x3, iv x4, .unset] [] := by first | (simp [entryFrame, mkF, argsToLocals, Value.category]; done) | rfl
theorem d3_0 : decode prog_50_method_1_code 0 = .ok (.aload_n 0, 1) := by decide +kernel
theorem d3_1 : decode prog_50_method_1_code 1 = .ok (.invokespecial 3, 3) := by decide +kernel
theorem d3_4 : decode prog_50_method_1_code 4 = .ok (.aload_n 0, 1) := by decide +kernel
theorem d3_5 : decode prog_50_method_1_code 5 = .ok (.aload_n 1, 1) := by decide +kernel
theorem d3_6 : decode prog_50_method_1_code 6 = .ok (.putfield 9, 3) := by decide +kernel
theorem d3_9 : decode prog_50_method_1_code 9 = .ok (.aload_n 0, 1) := by decide +kernel
theorem d3_10 : decode prog_50_method_1_code 10 = .ok (.iload_n 2, 1) := by decide +kernel
theorem d3_11 : decode prog_50_method_1_code 11 = .ok (.putfield 13, 3) := by decide +kernel
theorem d3_14 : decode prog_50_method_1_code 14 = .ok (.aload_n 0, 1) := by decide +kernel
theorem d3_15 : decode prog_50_method_1_code 15 = .ok (.iload 4, 2) := by decide +kernel
theorem d3_17 : decode prog_50_method_1_code 17 = .ok (.iload_n 2, 1) := by decide +kernel
theorem d3_18 : decode prog_50_method_1_code 18 = .ok (.isub, 1) := by decide +kernel
theorem d3_19 : decode prog_50_method_1_code 19 = .ok (.iconst 1, 1) := by decide +kernel
theorem d3_20 : decode prog_50_method_1_code 20 = .ok (.iadd, 1) := by decide +kernel
theorem d3_21 : decode prog_50_method_1_code 21 = .ok (.newarray .int, 2) := by decide +kernel
theorem d3_23 : decode prog_50_method_1_code 23 = .ok (.putfield 17, 3) := by decide +kernel
theorem d3_26 : decode prog_50_method_1_code 26 = .ok (.iconst 0, 1) := by decide +kernel
theorem d3_27 : decode prog_50_method_1_code 27 = .ok (.istore 5, 2) := by decide +kernel
theorem d3_29 : decode prog_50_method_1_code 29 = .ok (.iload 5, 2) := by decide +kernel
theorem d3_31 : decode prog_50_method_1_code 31 = .ok (.iload 4, 2) := by decide +kernel
theorem d3_33 : decode prog_50_method_1_code 33 = .ok (.iload_n 2, 1) := by decide +kernel
theorem d3_34 : decode prog_50_method_1_code 34 = .ok (.isub, 1) := by decide +kernel
theorem d3_35 : decode prog_50_method_1_code 35 = .ok (.if_icmp .ge 30, 3) := by decide +kernel
theorem d3_38 : decode prog_50_method_1_code 38 = .ok (.aload_n 0, 1) := by decide +kernel
theorem d3_39 : decode prog_50_method_1_code 39 = .ok (.getfield 17, 3) := by decide +kernel
theorem d3_42 : decode prog_50_method_1_code 42 = .ok (.iload 5, 2) := by decide +kernel
theorem d3_44 : decode prog_50_method_1_code 44 = .ok (.iconst 1, 1) := by decide +kernel
theorem d3_45 : decode prog_50_method_1_code 45 = .ok (.iadd, 1) := by decide +kernel
theorem d3_46 : decode prog_50_method_1_code 46 = .ok (.aload_n 0, 1) := by decide +kernel
theorem d3_47 : decode prog_50_method_1_code 47 = .ok (.getfield 17, 3) := by decide +kernel
theorem d3_50 : decode prog_50_method_1_code 50 = .ok (.iload 5, 2) := by decide +kernel
theorem d3_52 : decode prog_50_method_1_code 52 = .ok (.iaload, 1) := by decide +kernel
theorem d3_53 : decode prog_50_method_1_code 53 = .ok (.aload_n 3, 1) := by decide +kernel
theorem d3_54 : decode prog_50_method_1_code 54 = .ok (.iload 5, 2) := by decide +kernel
theorem d3_56 : decode prog_50_method_1_code 56 = .ok (.iaload, 1) := by decide +kernel
theorem d3_57 : decode prog_50_method_1_code 57 = .ok (.iadd, 1) := by decide +kernel
theorem d3_58 : decode prog_50_method_1_code 58 = .ok (.iastore, 1) := by decide +kernel
theorem d3_59 : decode prog_50_method_1_code 59 = .ok (.iinc 5 1, 3) := by decide +kernel
theorem d3_62 : decode prog_50_method_1_code 62 = .ok (.goto (-33), 3) := by decide +kernel
theorem d3_65 : decode prog_50_method_1_code 65 = .ok (.aload_n 0, 1) := by decide +kernel
theorem d3_66 : decode prog_50_method_1_code 66 = .ok (.aload_n 0, 1) := by decide +kernel
theorem d3_67 : decode prog_50_method_1_code 67 = .ok (.getfield 17, 3) := by decide +kernel
theorem d3_70 : decode prog_50_method_1_code 70 = .ok (.iload 4, 2) := by decide +kernel
theorem d3_72 : decode prog_50_method_1_code 72 = .ok (.iload_n 2, 1) := by decide +kernel
theorem d3_73 : decode prog_50_method_1_code 73 = .ok (.isub, 1) := by decide +kernel
theorem d3_74 : decode prog_50_method_1_code 74 = .ok (.iaload, 1) := by decide +kernel
theorem d3_75 : decode prog_50_method_1_code 75 = .ok (.invokestatic 21, 3) := by decide +kernel
theorem own_pd1 : parseMethodDescriptor "(I)[[I" = some ⟨[.int], some (.array (.array .int))⟩ := by decide +kernel
theorem d3_78 : decode prog_50_method_1_code 78 = .ok (.putfield 25, 3) := by decide +kernel
theorem d3_81 : decode prog_50_method_1_code 81 = .ok (.aload_n 0, 1) := by decide +kernel
theorem d3_82 : decode prog_50_method_1_code 82 = .ok (.aload_n 0, 1) := by decide +kernel
theorem d3_83 : decode prog_50_method_1_code 83 = .ok (.getfield 17, 3) := by decide +kernel
theorem d3_86 : decode prog_50_method_1_code 86 = .ok (.iload 4, 2) := by decide +kernel
theorem d3_88 : decode prog_50_method_1_code 88 = .ok (.iload_n 2, 1) := by decide +kernel
theorem d3_89 : decode prog_50_method_1_code 89 = .ok (.isub, 1) := by decide +kernel
theorem d3_90 : decode prog_50_method_1_code 90 = .ok (.iaload, 1) := by decide +kernel
theorem d3_91 : decode prog_50_method_1_code 91 = .ok (.invokestatic 21, 3) := by decide +kernel
theorem d3_94 : decode prog_50_method_1_code 94 = .ok (.putfield 29, 3) := by decide +kernel
theorem d3_97 : decode prog_50_method_1_code 97 = .ok (.aload_n 0, 1) := by decide +kernel
theorem d3_98 : decode prog_50_method_1_code 98 = .ok (.aload_n 0, 1) := by decide +kernel
theorem d3_99 : decode prog_50_method_1_code 99 = .ok (.getfield 17, 3) := by decide +kernel
theorem d3_102 : decode prog_50_method_1_code 102 = .ok (.iload 4, 2) := by decide +kernel
theorem d3_104 : decode prog_50_method_1_code 104 = .ok (.iload_n 2, 1) := by decide +kernel
theorem d3_105 : decode prog_50_method_1_code 105 = .ok (.isub, 1) := by decide +kernel
theorem d3_106 : decode prog_50_method_1_code 106 = .ok (.invokestatic 32, 3) := by decide +kernel
theorem own_pd2 : parseMethodDescriptor "([II)[I" = some ⟨[(.array .int), .int], some (.array .int)⟩ := by decide +kernel
theorem d3_109 : decode prog_50_method_1_code 109 = .ok (.putfield 38, 3) := by decide +kernel
theorem d3_112 : decode prog_50_method_1_code 112 = .ok (.return_, 1) := by decide +kernel
theorem own_ef7_RIII (m : MethodId) (x0 : Addr) (x1 : Int32) (x2 : Int32) (x3 : Int32) : entryFrame m #[(.ref x0), (.int x1), (.int x2), (.int x3)] 5 = mkF m 0 #[rv x0, iv x1, iv x2, iv x3, .unset] [] := by first | (simp [entryFrame, mkF, argsToLocals, Value.category]; done) | rfl
theorem d7_0 : decode prog_50_method_4_code 0 = .ok (.aload_n 0, 1) := by decide +kernel
theorem d7_1 : decode prog_50_method_4_code 1 = .ok (.getfield 38, 3) := by decide +kernel
theorem d7_4 : decode prog_50_method_4_code 4 = .ok (.iload_n 2, 1) := by decide +kernel
theorem d7_5 : decode prog_50_method_4_code 5 = .ok (.aload_n 0, 1) := by decide +kernel
theorem d7_6 : decode prog_50_method_4_code 6 = .ok (.getfield 13, 3) := by decide +kernel
theorem d7_9 : decode prog_50_method_4_code 9 = .ok (.isub, 1) := by decide +kernel
theorem d7_10 : decode prog_50_method_4_code 10 = .ok (.dup2, 1) := by decide +kernel
theorem d7_11 : decode prog_50_method_4_code 11 = .ok (.iaload, 1) := by decide +kernel
theorem d7_12 : decode prog_50_method_4_code 12 = .ok (.dup_x2, 1) := by decide +kernel
theorem d7_13 : decode prog_50_method_4_code 13 = .ok (.iconst 1, 1) := by decide +kernel
theorem d7_14 : decode prog_50_method_4_code 14 = .ok (.iadd, 1) := by decide +kernel
theorem d7_15 : decode prog_50_method_4_code 15 = .ok (.iastore, 1) := by decide +kernel
theorem d7_16 : decode prog_50_method_4_code 16 = .ok (.istore 4, 2) := by decide +kernel
theorem d7_18 : decode prog_50_method_4_code 18 = .ok (.aload_n 0, 1) := by decide +kernel
theorem d7_19 : decode prog_50_method_4_code 19 = .ok (.getfield 25, 3) := by decide +kernel
theorem d7_22 : decode prog_50_method_4_code 22 = .ok (.iload 4, 2) := by decide +kernel
theorem d7_24 : decode prog_50_method_4_code 24 = .ok (.bipush 14, 2) := by decide +kernel
theorem d7_26 : decode prog_50_method_4_code 26 = .ok (.iushr, 1) := by decide +kernel
theorem d7_27 : decode prog_50_method_4_code 27 = .ok (.aaload, 1) := by decide +kernel
theorem d7_28 : decode prog_50_method_4_code 28 = .ok (.iload 4, 2) := by decide +kernel
theorem d7_30 : decode prog_50_method_4_code 30 = .ok (.sipush 16383, 3) := by decide +kernel
theorem d7_33 : decode prog_50_method_4_code 33 = .ok (.iand, 1) := by decide +kernel
theorem d7_34 : decode prog_50_method_4_code 34 = .ok (.iload_n 1, 1) := by decide +kernel
theorem d7_35 : decode prog_50_method_4_code 35 = .ok (.iastore, 1) := by decide +kernel
theorem d7_36 : decode prog_50_method_4_code 36 = .ok (.aload_n 0, 1) := by decide +kernel
theorem d7_37 : decode prog_50_method_4_code 37 = .ok (.getfield 29, 3) := by decide +kernel
theorem d7_40 : decode prog_50_method_4_code 40 = .ok (.iload 4, 2) := by decide +kernel
theorem d7_42 : decode prog_50_method_4_code 42 = .ok (.bipush 14, 2) := by decide +kernel
theorem d7_44 : decode prog_50_method_4_code 44 = .ok (.iushr, 1) := by decide +kernel
theorem d7_45 : decode prog_50_method_4_code 45 = .ok (.aaload, 1) := by decide +kernel
theorem d7_46 : decode prog_50_method_4_code 46 = .ok (.iload 4, 2) := by decide +kernel
theorem d7_48 : decode prog_50_method_4_code 48 = .ok (.sipush 16383, 3) := by decide +kernel
theorem d7_51 : decode prog_50_method_4_code 51 = .ok (.iand, 1) := by decide +kernel
theorem d7_52 : decode prog_50_method_4_code 52 = .ok (.iload_n 3, 1) := by decide +kernel
theorem d7_53 : decode prog_50_method_4_code 53 = .ok (.iastore, 1) := by decide +kernel
theorem d7_54 : decode prog_50_method_4_code 54 = .ok (.return_, 1) := by decide +kernel
theorem own_ef9_RII (m : MethodId) (x0 : Addr) (x1 : Int32) (x2 : Int32) : entryFrame m #[(.ref x0), (.int x1), (.int x2)] 7 = mkF m 0 #[rv x0, iv x1, iv x2, .unset, .unset, .unset, .unset] [] := by first | (simp [entryFrame, mkF, argsToLocals, Value.category]; done) | rfl
theorem d9_0 : decode prog_50_method_6_code 0 = .ok (.iload_n 2, 1) := by decide +kernel
theorem d9_1 : decode prog_50_method_6_code 1 = .ok (.iload_n 1, 1) := by decide +kernel
theorem d9_2 : decode prog_50_method_6_code 2 = .ok (.isub, 1) := by decide +kernel
theorem d9_3 : decode prog_50_method_6_code 3 = .ok (.newarray .int, 2) := by decide +kernel
theorem d9_5 : decode prog_50_method_6_code 5 = .ok (.astore_n 3, 1) := by decide +kernel
theorem d9_6 : decode prog_50_method_6_code 6 = .ok (.iload_n 1, 1) := by decide +kernel
theorem d9_7 : decode prog_50_method_6_code 7 = .ok (.istore 4, 2) := by decide +kernel
theorem d9_9 : decode prog_50_method_6_code 9 = .ok (.iload 4, 2) := by decide +kernel
theorem d9_11 : decode prog_50_method_6_code 11 = .ok (.iload_n 2, 1) := by decide +kernel
theorem d9_12 : decode prog_50_method_6_code 12 = .ok (.if_icmp .ge 55, 3) := by decide +kernel
theorem d9_15 : decode prog_50_method_6_code 15 = .ok (.iload 4, 2) := by decide +kernel
theorem d9_17 : decode prog_50_method_6_code 17 = .ok (.sipush 16383, 3) := by decide +kernel
theorem d9_20 : decode prog_50_method_6_code 20 = .ok (.iand, 1) := by decide +kernel
theorem d9_21 : decode prog_50_method_6_code 21 = .ok (.istore 5, 2) := by decide +kernel
theorem d9_23 : decode prog_50_method_6_code 23 = .ok (.iload_n 2, 1) := by decide +kernel
theorem d9_24 : decode prog_50_method_6_code 24 = .ok (.iload 4, 2) := by decide +kernel
theorem d9_26 : decode prog_50_method_6_code 26 = .ok (.isub, 1) := by decide +kernel
theorem d9_27 : decode prog_50_method_6_code 27 = .ok (.sipush 16384, 3) := by decide +kernel
theorem d9_30 : decode prog_50_method_6_code 30 = .ok (.iload 5, 2) := by decide +kernel
theorem d9_32 : decode prog_50_method_6_code 32 = .ok (.isub, 1) := by decide +kernel
theorem d9_33 : decode prog_50_method_6_code 33 = .ok (.invokestatic 44, 3) := by decide +kernel
theorem d9_36 : decode prog_50_method_6_code 36 = .ok (.istore 6, 2) := by decide +kernel
theorem d9_38 : decode prog_50_method_6_code 38 = .ok (.aload_n 0, 1) := by decide +kernel
theorem d9_39 : decode prog_50_method_6_code 39 = .ok (.iload 4, 2) := by decide +kernel
theorem d9_41 : decode prog_50_method_6_code 41 = .ok (.bipush 14, 2) := by decide +kernel
theorem d9_43 : decode prog_50_method_6_code 43 = .ok (.iushr, 1) := by decide +kernel
theorem d9_44 : decode prog_50_method_6_code 44 = .ok (.aaload, 1) := by decide +kernel
theorem d9_45 : decode prog_50_method_6_code 45 = .ok (.iload 5, 2) := by decide +kernel
theorem d9_47 : decode prog_50_method_6_code 47 = .ok (.aload_n 3, 1) := by decide +kernel
theorem d9_48 : decode prog_50_method_6_code 48 = .ok (.iload 4, 2) := by decide +kernel
theorem d9_50 : decode prog_50_method_6_code 50 = .ok (.iload_n 1, 1) := by decide +kernel
theorem d9_51 : decode prog_50_method_6_code 51 = .ok (.isub, 1) := by decide +kernel
theorem d9_52 : decode prog_50_method_6_code 52 = .ok (.iload 6, 2) := by decide +kernel
theorem d9_54 : decode prog_50_method_6_code 54 = .ok (.invokestatic 86, 3) := by decide +kernel
theorem d9_57 : decode prog_50_method_6_code 57 = .ok (.iload 4, 2) := by decide +kernel
theorem d9_59 : decode prog_50_method_6_code 59 = .ok (.iload 6, 2) := by decide +kernel
theorem d9_61 : decode prog_50_method_6_code 61 = .ok (.iadd, 1) := by decide +kernel
theorem d9_62 : decode prog_50_method_6_code 62 = .ok (.istore 4, 2) := by decide +kernel
theorem d9_64 : decode prog_50_method_6_code 64 = .ok (.goto (-55), 3) := by decide +kernel
theorem d9_67 : decode prog_50_method_6_code 67 = .ok (.aload_n 3, 1) := by decide +kernel
theorem d9_68 : decode prog_50_method_6_code 68 = .ok (.areturn, 1) := by decide +kernel
theorem own_pn3 : plainName "com/example/ranked_text_search/rankedtextsearch/TermVectors$Vector" = true := by first | (simp [plainName, overriddenIn]; done) | decide +kernel
theorem own_ef10_RRR (m : MethodId) (x0 : Addr) (x1 : Addr) (x2 : Addr) : entryFrame m #[(.ref x0), (.ref x1), (.ref x2)] 3 = mkF m 0 #[rv x0, rv x1, rv x2] [] := by first | (simp [entryFrame, mkF, argsToLocals, Value.category]; done) | rfl
theorem d10_0 : decode prog_100_method_1_code 0 = .ok (.aload_n 0, 1) := by decide +kernel
theorem d10_1 : decode prog_100_method_1_code 1 = .ok (.invokespecial 1, 3) := by decide +kernel
theorem own_pd3 : parseMethodDescriptor "()V" = some ⟨[], none⟩ := by decide +kernel
theorem d10_4 : decode prog_100_method_1_code 4 = .ok (.aload_n 0, 1) := by decide +kernel
theorem d10_5 : decode prog_100_method_1_code 5 = .ok (.aload_n 1, 1) := by decide +kernel
theorem d10_6 : decode prog_100_method_1_code 6 = .ok (.putfield 7, 3) := by decide +kernel
theorem d10_9 : decode prog_100_method_1_code 9 = .ok (.aload_n 0, 1) := by decide +kernel
theorem d10_10 : decode prog_100_method_1_code 10 = .ok (.aload_n 2, 1) := by decide +kernel
theorem d10_11 : decode prog_100_method_1_code 11 = .ok (.putfield 13, 3) := by decide +kernel
theorem d10_14 : decode prog_100_method_1_code 14 = .ok (.return_, 1) := by decide +kernel
theorem own_ef12_R (m : MethodId) (x0 : Addr) : entryFrame m #[(.ref x0)] 1 = mkF m 0 #[rv x0] [] := by first | (simp [entryFrame, mkF, argsToLocals, Value.category]; done) | rfl
theorem d12_0 : decode prog_100_method_5_code 0 = .ok (.aload_n 0, 1) := by decide +kernel
theorem d12_1 : decode prog_100_method_5_code 1 = .ok (.getfield 7, 3) := by decide +kernel
theorem d12_4 : decode prog_100_method_5_code 4 = .ok (.areturn, 1) := by decide +kernel
theorem own_ef13_R (m : MethodId) (x0 : Addr) : entryFrame m #[(.ref x0)] 1 = mkF m 0 #[rv x0] [] := by first | (simp [entryFrame, mkF, argsToLocals, Value.category]; done) | rfl
theorem d13_0 : decode prog_100_method_6_code 0 = .ok (.aload_n 0, 1) := by decide +kernel
theorem d13_1 : decode prog_100_method_6_code 1 = .ok (.getfield 13, 3) := by decide +kernel
theorem d13_4 : decode prog_100_method_6_code 4 = .ok (.areturn, 1) := by decide +kernel
theorem own_ef8_RI (m : MethodId) (x0 : Addr) (x1 : Int32) : entryFrame m #[(.ref x0), (.int x1)] 4 = mkF m 0 #[rv x0, iv x1, .unset, .unset] [] := by first | (simp [entryFrame, mkF, argsToLocals, Value.category]; done) | rfl
theorem d8_0 : decode prog_50_method_5_code 0 = .ok (.aload_n 0, 1) := by decide +kernel
theorem d8_1 : decode prog_50_method_5_code 1 = .ok (.getfield 17, 3) := by decide +kernel
theorem d8_4 : decode prog_50_method_5_code 4 = .ok (.iload_n 1, 1) := by decide +kernel
theorem d8_5 : decode prog_50_method_5_code 5 = .ok (.aload_n 0, 1) := by decide +kernel
theorem d8_6 : decode prog_50_method_5_code 6 = .ok (.getfield 13, 3) := by decide +kernel
theorem d8_9 : decode prog_50_method_5_code 9 = .ok (.isub, 1) := by decide +kernel
theorem d8_10 : decode prog_50_method_5_code 10 = .ok (.iaload, 1) := by decide +kernel
theorem d8_11 : decode prog_50_method_5_code 11 = .ok (.istore_n 2, 1) := by decide +kernel
theorem d8_12 : decode prog_50_method_5_code 12 = .ok (.aload_n 0, 1) := by decide +kernel
theorem d8_13 : decode prog_50_method_5_code 13 = .ok (.getfield 17, 3) := by decide +kernel
theorem d8_16 : decode prog_50_method_5_code 16 = .ok (.iload_n 1, 1) := by decide +kernel
theorem d8_17 : decode prog_50_method_5_code 17 = .ok (.aload_n 0, 1) := by decide +kernel
theorem d8_18 : decode prog_50_method_5_code 18 = .ok (.getfield 13, 3) := by decide +kernel
theorem d8_21 : decode prog_50_method_5_code 21 = .ok (.isub, 1) := by decide +kernel
theorem d8_22 : decode prog_50_method_5_code 22 = .ok (.iconst 1, 1) := by decide +kernel
theorem d8_23 : decode prog_50_method_5_code 23 = .ok (.iadd, 1) := by decide +kernel
theorem d8_24 : decode prog_50_method_5_code 24 = .ok (.iaload, 1) := by decide +kernel
theorem d8_25 : decode prog_50_method_5_code 25 = .ok (.istore_n 3, 1) := by decide +kernel
theorem d8_26 : decode prog_50_method_5_code 26 = .ok (.new 77, 3) := by decide +kernel
theorem d8_29 : decode prog_50_method_5_code 29 = .ok (.dup, 1) := by decide +kernel
theorem d8_30 : decode prog_50_method_5_code 30 = .ok (.aload_n 0, 1) := by decide +kernel
theorem d8_31 : decode prog_50_method_5_code 31 = .ok (.getfield 25, 3) := by decide +kernel
theorem d8_34 : decode prog_50_method_5_code 34 = .ok (.iload_n 2, 1) := by decide +kernel
theorem d8_35 : decode prog_50_method_5_code 35 = .ok (.iload_n 3, 1) := by decide +kernel
theorem d8_36 : decode prog_50_method_5_code 36 = .ok (.invokestatic 79, 3) := by decide +kernel
theorem own_pd4 : parseMethodDescriptor "([[III)[I" = some ⟨[(.array (.array .int)), .int, .int], some (.array .int)⟩ := by decide +kernel
theorem d8_39 : decode prog_50_method_5_code 39 = .ok (.aload_n 0, 1) := by decide +kernel
theorem d8_40 : decode prog_50_method_5_code 40 = .ok (.getfield 29, 3) := by decide +kernel
theorem d8_43 : decode prog_50_method_5_code 43 = .ok (.iload_n 2, 1) := by decide +kernel
theorem d8_44 : decode prog_50_method_5_code 44 = .ok (.iload_n 3, 1) := by decide +kernel
theorem d8_45 : decode prog_50_method_5_code 45 = .ok (.invokestatic 79, 3) := by decide +kernel
theorem d8_48 : decode prog_50_method_5_code 48 = .ok (.invokespecial 83, 3) := by decide +kernel
theorem own_pd5 : parseMethodDescriptor "([I[I)V" = some ⟨[(.array .int), (.array .int)], none⟩ := by decide +kernel
theorem d8_51 : decode prog_50_method_5_code 51 = .ok (.areturn, 1) := by decide +kernel
theorem own_pn4 : plainName "com/example/ranked_text_search/rankedtextsearch/MemoryTermVectorsAddPinLaw" = true := by first | (simp [plainName, overriddenIn]; done) | decide +kernel
theorem own_ef0_IIJJJ (m : MethodId) (x0 : Int32) (x1 : Int32) (x2 : Int64) (x3 : Int64) (x4 : Int64) : entryFrame m #[(.int x0), (.int x1), (.long x2), (.long x3), (.long x4)] maxLocals = mkF m 0 #[iv x0, iv x1, .val (.long x2), .second, .val (.long x3), .second, .val (.long x4), .second, .unset, .unset, .unset, .unset, .unset, .unset, .unset, .unset, .unset, .unset, .unset, .unset, .unset, .unset, .unset, .unset, .unset, .unset, .unset, .unset] [] := by first | (simp [entryFrame, mkF, argsToLocals, Value.category, maxLocals]; done) | rfl
theorem own_pd6 : parseMethodDescriptor "([Ljava/lang/String;I[II)V" = some ⟨[(.array (.object "java/lang/String")), .int, (.array .int), .int], none⟩ := by decide +kernel
theorem own_pd7 : parseMethodDescriptor "(III)V" = some ⟨[.int, .int, .int], none⟩ := by decide +kernel
theorem own_pd8 : parseMethodDescriptor "(I)Lcom/example/ranked_text_search/rankedtextsearch/TermVectors$Vector;" = some ⟨[.int], some (.object "com/example/ranked_text_search/rankedtextsearch/TermVectors$Vector")⟩ := by decide +kernel
theorem own_pd9 : parseMethodDescriptor "()[I" = some ⟨[], some (.array .int)⟩ := by decide +kernel
def Q_rm_min (Z : State) (u1 : Int32) (u2 : Int32) (h0 : Heap) (n0 : Nat) (v : Option Value) (h : Heap) (L : List Loc) : Prop := v = some (.int (own_mn u1 u2)) ∧ Fr n0 L ∧ h = h0
set_option maxRecDepth 65536 in
set_option maxHeartbeats 40000000 in
theorem rm_min (l : Launch) (Z : State) (a0 : Array Value) (hw : ∀ d ∈ tables_1, d.before a0 Z = true) (ws : List Jvm.Cond) (u1 : Int32) (u2 : Int32) (h0 : Heap) (n0 : Nat) (Z0 : n0 ≤ h0.size) :
    MetFree l (⟨"java/lang/Math", "min", "(II)I"⟩ : MethodName) (head1 (Jvm.Cond.code (⟨"java/lang/Math", "min", "(II)I"⟩ : MethodName) jdk_29_method_69_code 2 (some .int) :: ws) ({ frames := 0, cells := 0, slots := 0, locals := 0 } : Room)) (fun a U => a = #[(.int u1), (.int u2)] ∧ Z.Warmed39 U.vm ∧ U.heap = h0) (fun _ _ _ _ _ => True) (fun _ U o U' => ∃ v L, o = .returned v ∧ Q_rm_min Z u1 u2 h0 n0 v U'.heap L ∧ FrameEnd U o U' L ({ frames := 0, cells := 0, slots := 0, locals := 0 } : Room).cells ({ frames := 0, cells := 0, slots := 0, locals := 0 } : Room).slots) := by
  refine MetFree.of_bodySF (Jvm.Free.JP.mathPlain rfl (by decide +kernel)) hisR ?_
  intro p e s m args below meth c s₁ Bd hml0 hP hK
  obtain ⟨rfl, hZ, hh⟩ := hP
  have hx := Bd.exec
  have hby := Bd.bytes
  have hml : c.maxLocals = 2 := hml0
  have hown : s.vm.findClass "java/lang/Math" = some m.cls := findClass_of_methodNamed Bd.named
  have hnm := (name_of_methodNamed Bd.named Bd.method).1
  have X0 : Stand p l e ({ frames := 0, cells := 0, slots := 0, locals := 0 } : Room) s m #[(.int u1), (.int u2)] below meth c s₁ [] 0 0 := Stand.of_body Bd
  have e0 : s₁.heap = h0 := by rw [← hh, Bd.state]; rfl
  have N0 := Fr.nil n0
  obtain ⟨B0, hB0⟩ : ∃ B, B = (s₁.setTop (entryFrame m #[(.int u1), (.int u2)] 2)) := ⟨_, rfl⟩
  have st0 : own_Go p e below (s₁.setTop (mkF m 0 #[iv u1, iv u2] [])) B0 := fun t k => hB0 ▸ castTop (own_ef1_II m u1 u2) k
  have st1 : own_Go p e below (s₁.setTop (mkF m 2 #[iv u1, iv u2] [(.int u2), (.int u1)])) B0 := fun t kt => st0 t (by
    show own_At p e below s₁ m 0 #[iv u1, iv u2] [] _
    refine XS.iloadN X0.here hx rfl (hb hby d1_0) rfl ?_
    show own_At p e below s₁ m 1 #[iv u1, iv u2] [(.int u1)] _
    refine XS.iloadN X0.here hx rfl (hb hby d1_1) rfl ?_
    show own_At p e below s₁ m 2 #[iv u1, iv u2] [(.int u2), (.int u1)] _
    exact kt)
  by_cases q1 : u2 < u1
  · have st2 : own_Go p e below (s₁.setTop (mkF m 10 #[iv u1, iv u2] [(.int u2)])) B0 := fun t kt => st1 t (by
      show own_At p e below s₁ m 2 #[iv u1, iv u2] [(.int u2), (.int u1)] _
      refine XS.icmpYes X0.here hx rfl (pc0 := 2) (pc' := 9) rfl (hb hby d1_2) rfl (tlt q1).2.2.1 (by decide) (by decide) ?_
      show own_At p e below s₁ m 9 #[iv u1, iv u2] [] _
      refine XS.iloadN X0.here hx rfl (hb hby d1_9) rfl ?_
      show own_At p e below s₁ m 10 #[iv u1, iv u2] [(.int u2)] _
      exact kt)
    obtain ⟨fs, hr, hrun, hended, hW, hsame⟩ := X0.leave (v := (some (.int u2))) (fun h => by rw [Bd.returns] at h; cases h)
    subst hB0
    refine ⟨_, _, st2 _ ?_, hrun, hended, _, _, rfl, ?_, ⟨_, rfl⟩, hW, hsame.mono (by decide) (by decide)⟩
    · exact retOut X0 hx Bd.returns rfl (Or.inl ⟨rfl, Or.inl rfl, _, rfl⟩) (hb hby d1_10) hr
    · show Q_rm_min Z u1 u2 h0 n0 _ s₁.heap _
      rw [e0]
      exact ⟨by simp [own_mn, q1], N0, rfl⟩
  · have st3 : own_Go p e below (s₁.setTop (mkF m 10 #[iv u1, iv u2] [(.int u1)])) B0 := fun t kt => st1 t (by
      show own_At p e below s₁ m 2 #[iv u1, iv u2] [(.int u2), (.int u1)] _
      refine XS.icmpNo X0.here hx rfl (hb hby d1_2) rfl (flt q1).2.2.1 ?_
      show own_At p e below s₁ m 5 #[iv u1, iv u2] [] _
      refine XS.iloadN X0.here hx rfl (hb hby d1_5) rfl ?_
      show own_At p e below s₁ m 6 #[iv u1, iv u2] [(.int u1)] _
      refine XS.goto X0.here hx rfl (pc0 := 6) (pc' := 10) rfl (hb hby d1_6) (by decide) (by decide) ?_
      show own_At p e below s₁ m 10 #[iv u1, iv u2] [(.int u1)] _
      exact kt)
    obtain ⟨fs, hr, hrun, hended, hW, hsame⟩ := X0.leave (v := (some (.int u1))) (fun h => by rw [Bd.returns] at h; cases h)
    subst hB0
    refine ⟨_, _, st3 _ ?_, hrun, hended, _, _, rfl, ?_, ⟨_, rfl⟩, hW, hsame.mono (by decide) (by decide)⟩
    · exact retOut X0 hx Bd.returns rfl (Or.inl ⟨rfl, Or.inl rfl, _, rfl⟩) (hb hby d1_10) hr
    · show Q_rm_min Z u1 u2 h0 n0 _ s₁.heap _
      rw [e0]
      exact ⟨by simp [own_mn, q1], N0, rfl⟩
def Q_rm_max (Z : State) (u1 : Int32) (u2 : Int32) (h0 : Heap) (n0 : Nat) (v : Option Value) (h : Heap) (L : List Loc) : Prop := v = some (.int (own_max u1 u2)) ∧ Fr n0 L ∧ h = h0
set_option maxRecDepth 65536 in
set_option maxHeartbeats 40000000 in
theorem rm_max (l : Launch) (Z : State) (a0 : Array Value) (hw : ∀ d ∈ tables_1, d.before a0 Z = true) (ws : List Jvm.Cond) (u1 : Int32) (u2 : Int32) (h0 : Heap) (n0 : Nat) (Z0 : n0 ≤ h0.size) :
    MetFree l (⟨"java/lang/Math", "max", "(II)I"⟩ : MethodName) (head1 (Jvm.Cond.code (⟨"java/lang/Math", "max", "(II)I"⟩ : MethodName) jdk_29_method_65_code 2 (some .int) :: ws) ({ frames := 0, cells := 0, slots := 0, locals := 0 } : Room)) (fun a U => a = #[(.int u1), (.int u2)] ∧ Z.Warmed39 U.vm ∧ U.heap = h0) (fun _ _ _ _ _ => True) (fun _ U o U' => ∃ v L, o = .returned v ∧ Q_rm_max Z u1 u2 h0 n0 v U'.heap L ∧ FrameEnd U o U' L ({ frames := 0, cells := 0, slots := 0, locals := 0 } : Room).cells ({ frames := 0, cells := 0, slots := 0, locals := 0 } : Room).slots) := by
  refine MetFree.of_bodySF (Jvm.Free.JP.mathPlain rfl (by decide +kernel)) hisR ?_
  intro p e s m args below meth c s₁ Bd hml0 hP hK
  obtain ⟨rfl, hZ, hh⟩ := hP
  have hx := Bd.exec
  have hby := Bd.bytes
  have hml : c.maxLocals = 2 := hml0
  have hown : s.vm.findClass "java/lang/Math" = some m.cls := findClass_of_methodNamed Bd.named
  have hnm := (name_of_methodNamed Bd.named Bd.method).1
  have X0 : Stand p l e ({ frames := 0, cells := 0, slots := 0, locals := 0 } : Room) s m #[(.int u1), (.int u2)] below meth c s₁ [] 0 0 := Stand.of_body Bd
  have e0 : s₁.heap = h0 := by rw [← hh, Bd.state]; rfl
  have N0 := Fr.nil n0
  obtain ⟨B0, hB0⟩ : ∃ B, B = (s₁.setTop (entryFrame m #[(.int u1), (.int u2)] 2)) := ⟨_, rfl⟩
  have st0 : own_Go p e below (s₁.setTop (mkF m 0 #[iv u1, iv u2] [])) B0 := fun t k => hB0 ▸ castTop (own_ef2_II m u1 u2) k
  have st1 : own_Go p e below (s₁.setTop (mkF m 2 #[iv u1, iv u2] [(.int u2), (.int u1)])) B0 := fun t kt => st0 t (by
    show own_At p e below s₁ m 0 #[iv u1, iv u2] [] _
    refine XS.iloadN X0.here hx rfl (hb hby d2_0) rfl ?_
    show own_At p e below s₁ m 1 #[iv u1, iv u2] [(.int u1)] _
    refine XS.iloadN X0.here hx rfl (hb hby d2_1) rfl ?_
    show own_At p e below s₁ m 2 #[iv u1, iv u2] [(.int u2), (.int u1)] _
    exact kt)
  by_cases q1 : u1 < u2
  · have st2 : own_Go p e below (s₁.setTop (mkF m 10 #[iv u1, iv u2] [(.int u2)])) B0 := fun t kt => st1 t (by
      show own_At p e below s₁ m 2 #[iv u1, iv u2] [(.int u2), (.int u1)] _
      refine XS.icmpYes X0.here hx rfl (pc0 := 2) (pc' := 9) rfl (hb hby d2_2) rfl (tlt q1).1 (by decide) (by decide) ?_
      show own_At p e below s₁ m 9 #[iv u1, iv u2] [] _
      refine XS.iloadN X0.here hx rfl (hb hby d2_9) rfl ?_
      show own_At p e below s₁ m 10 #[iv u1, iv u2] [(.int u2)] _
      exact kt)
    obtain ⟨fs, hr, hrun, hended, hW, hsame⟩ := X0.leave (v := (some (.int u2))) (fun h => by rw [Bd.returns] at h; cases h)
    subst hB0
    refine ⟨_, _, st2 _ ?_, hrun, hended, _, _, rfl, ?_, ⟨_, rfl⟩, hW, hsame.mono (by decide) (by decide)⟩
    · exact retOut X0 hx Bd.returns rfl (Or.inl ⟨rfl, Or.inl rfl, _, rfl⟩) (hb hby d2_10) hr
    · show Q_rm_max Z u1 u2 h0 n0 _ s₁.heap _
      rw [e0]
      exact ⟨by simp [own_max, q1], N0, rfl⟩
  · have st3 : own_Go p e below (s₁.setTop (mkF m 10 #[iv u1, iv u2] [(.int u1)])) B0 := fun t kt => st1 t (by
      show own_At p e below s₁ m 2 #[iv u1, iv u2] [(.int u2), (.int u1)] _
      refine XS.icmpNo X0.here hx rfl (hb hby d2_2) rfl (flt q1).1 ?_
      show own_At p e below s₁ m 5 #[iv u1, iv u2] [] _
      refine XS.iloadN X0.here hx rfl (hb hby d2_5) rfl ?_
      show own_At p e below s₁ m 6 #[iv u1, iv u2] [(.int u1)] _
      refine XS.goto X0.here hx rfl (pc0 := 6) (pc' := 10) rfl (hb hby d2_6) (by decide) (by decide) ?_
      show own_At p e below s₁ m 10 #[iv u1, iv u2] [(.int u1)] _
      exact kt)
    obtain ⟨fs, hr, hrun, hended, hW, hsame⟩ := X0.leave (v := (some (.int u1))) (fun h => by rw [Bd.returns] at h; cases h)
    subst hB0
    refine ⟨_, _, st3 _ ?_, hrun, hended, _, _, rfl, ?_, ⟨_, rfl⟩, hW, hsame.mono (by decide) (by decide)⟩
    · exact retOut X0 hx Bd.returns rfl (Or.inl ⟨rfl, Or.inl rfl, _, rfl⟩) (hb hby d2_10) hr
    · show Q_rm_max Z u1 u2 h0 n0 _ s₁.heap _
      rw [e0]
      exact ⟨by simp [own_max, q1], N0, rfl⟩
def Q_rm_record (Z : State) (ao : Addr) (h0 : Heap) (n0 : Nat) (v : Option Value) (h : Heap) (L : List Loc) : Prop := v = none ∧ Fr n0 L ∧ h = h0
set_option maxRecDepth 65536 in
set_option maxHeartbeats 40000000 in
theorem rm_record (l : Launch) (Z : State) (a0 : Array Value) (hw : ∀ d ∈ tables_1, d.before a0 Z = true) (ws : List Jvm.Cond) (ao : Addr) (h0 : Heap) (n0 : Nat) (Z0 : n0 ≤ h0.size) :
    MetFree l (⟨"java/lang/Record", "<init>", "()V"⟩ : MethodName) (head1 (Jvm.Cond.code (⟨"java/lang/Record", "<init>", "()V"⟩ : MethodName) jdk_30_method_1_code 1 none :: ws) ({ frames := 1, cells := 0, slots := 0, locals := 12 } : Room)) (fun a U => a = #[(.ref ao)] ∧ Z.Warmed39 U.vm ∧ U.heap = h0) (fun _ _ _ _ _ => True) (fun _ U o U' => ∃ v L, o = .returned v ∧ Q_rm_record Z ao h0 n0 v U'.heap L ∧ FrameEnd U o U' L ({ frames := 1, cells := 0, slots := 0, locals := 12 } : Room).cells ({ frames := 1, cells := 0, slots := 0, locals := 12 } : Room).slots) := by
  refine MetFree.of_bodySF (plainFor_of_name own_pn0) hisR ?_
  intro p e s m args below meth c s₁ Bd hml0 hP hK
  obtain ⟨rfl, hZ, hh⟩ := hP
  have hx := Bd.exec
  have hby := Bd.bytes
  have hml : c.maxLocals = 1 := hml0
  have hown : s.vm.findClass "java/lang/Record" = some m.cls := findClass_of_methodNamed Bd.named
  have hnm := (name_of_methodNamed Bd.named Bd.method).1
  have X0 : Stand p l e ({ frames := 1, cells := 0, slots := 0, locals := 12 } : Room) s m #[(.ref ao)] below meth c s₁ [] 0 0 := Stand.of_body Bd
  have e0 : s₁.heap = h0 := by rw [← hh, Bd.state]; rfl
  have N0 := Fr.nil n0
  obtain ⟨B0, hB0⟩ : ∃ B, B = (s₁.setTop (entryFrame m #[(.ref ao)] 1)) := ⟨_, rfl⟩
  have st0 : own_Go p e below (s₁.setTop (mkF m 0 #[rv ao] [])) B0 := fun t k => hB0 ▸ castTop (own_ef11_R m ao) k
  have st1 : own_Go p e below (s₁.setTop (mkF m 1 #[rv ao] [(.ref ao)])) B0 := fun t kt => st0 t (by
    show own_At p e below s₁ m 0 #[rv ao] [] _
    refine XS.aloadN X0.here hx rfl (hb hby d11_0) rfl rfl ?_
    show own_At p e below s₁ m 1 #[rv ao] [(.ref ao)] _
    exact kt)
  obtain ⟨T2, X2, e2, ls2⟩ := initO X0 hx hZ hown (hw _ (List.mem_of_getElem? (i := 71) rfl)) (hw _ (List.mem_of_getElem? (i := 15) rfl)) (hw _ (List.mem_of_getElem? (i := 16) rfl)) e0 (g := (mkF m 1 #[rv ao] [(.ref ao)])) rfl (by rw [hml]; rfl) rfl (hb hby d11_1) (by decide) (W := 0) (by show 2 * 0 + _ ≤ _; exact Nat.le_of_eq rfl) (by decide)
  have st3 : own_Go p e below (T2.setTop (mkF m 4 #[rv ao] [])) B0 := fun t kt => st1 t (ls2 t kt)
  obtain ⟨fs, hr, hrun, hended, hW, hsame⟩ := X2.leave (v := none) (fun _ => rfl)
  subst hB0
  refine ⟨_, _, st3 _ ?_, hrun, hended, _, _, rfl, ?_, ⟨_, rfl⟩, hW, hsame.mono (by decide) (by decide)⟩
  · exact X2.returnOut hx Bd.returns (hb hby d11_4) hr
  · show Q_rm_record Z ao h0 n0 _ T2.heap _
    rw [e2]
    exact ⟨rfl, N0, rfl⟩
def Q_rm_copyOf (Z : State) (asr : Addr) (u : Int32) (n : Nat) (gg : Nat → Int32) (k : Nat) (h0 : Heap) (n0 : Nat) (v : Option Value) (h : Heap) (L : List Loc) : Prop := ∃ b, v = some (.ref b) ∧ Fr n0 L ∧ Keep h0 h [] ∧ n0 ≤ b ∧ h0.size ≤ b ∧ own_Av Z h b .int k (fun q => .int (gg q))
set_option maxRecDepth 65536 in
set_option maxHeartbeats 40000000 in
theorem rm_copyOf (l : Launch) (Z : State) (a0 : Array Value) (hw : ∀ d ∈ tables_1, d.before a0 Z = true) (ws : List Jvm.Cond) (asr : Addr) (u : Int32) (n : Nat) (gg : Nat → Int32) (k : Nat) (h0 : Heap) (n0 : Nat) (Z0 : n0 ≤ h0.size) (Asr : own_Av Z h0 asr .int n (fun q => .int (gg q))) (hu : ¬ u < 0) (hk : u.toNatClampNeg = k) (hkn : k < n) (hk16 : k ≤ 16) :
    MetFree l (⟨"java/util/Arrays", "copyOf", "([II)[I"⟩ : MethodName) (head1 (Jvm.Cond.code (⟨"java/util/Arrays", "copyOf", "([II)[I"⟩ : MethodName) jdk_65_method_123_code 3 (some (.array .int)) :: ws) ({ frames := 1, cells := 1, slots := 16, locals := 18 } : Room)) (fun a U => a = #[(.ref asr), (.int u)] ∧ Z.Warmed39 U.vm ∧ U.heap = h0) (fun _ _ _ _ _ => True) (fun _ U o U' => ∃ v L, o = .returned v ∧ Q_rm_copyOf Z asr u n gg k h0 n0 v U'.heap L ∧ FrameEnd U o U' L ({ frames := 1, cells := 1, slots := 16, locals := 18 } : Room).cells ({ frames := 1, cells := 1, slots := 16, locals := 18 } : Room).slots) := by
  refine MetFree.of_bodySF (plainFor_of_name own_pn1) hisR ?_
  intro p e s m args below meth c s₁ Bd hml0 hP hK
  obtain ⟨rfl, hZ, hh⟩ := hP
  have hx := Bd.exec
  have hby := Bd.bytes
  have hml : c.maxLocals = 3 := hml0
  have hown : s.vm.findClass "java/util/Arrays" = some m.cls := findClass_of_methodNamed Bd.named
  have hnm := (name_of_methodNamed Bd.named Bd.method).1
  have X0 : Stand p l e ({ frames := 1, cells := 1, slots := 16, locals := 18 } : Room) s m #[(.ref asr), (.int u)] below meth c s₁ [] 0 0 := Stand.of_body Bd
  have e0 : s₁.heap = h0 := by rw [← hh, Bd.state]; rfl
  have N0 := Fr.nil n0
  obtain ⟨B0, hB0⟩ : ∃ B, B = (s₁.setTop (entryFrame m #[(.ref asr), (.int u)] 3)) := ⟨_, rfl⟩
  have st0 : own_Go p e below (s₁.setTop (mkF m 0 #[rv asr, iv u, .unset] [])) B0 := fun t k => hB0 ▸ castTop (own_ef6_RI m asr u) k
  have k0 : Keep h0 h0 [] := Keep.refl _ _
  have hn31 := Asr.small
  have st1 : own_Go p e below (s₁.setTop (mkF m 2 #[rv asr, iv u, .unset] [(.ref asr), (.int u)])) B0 := fun t kt => st0 t (by
    show own_At p e below s₁ m 0 #[rv asr, iv u, .unset] [] _
    refine XS.iloadN X0.here hx rfl (hb hby d6_0) rfl ?_
    show own_At p e below s₁ m 1 #[rv asr, iv u, .unset] [(.int u)] _
    refine XS.aloadN X0.here hx rfl (hb hby d6_1) rfl rfl ?_
    show own_At p e below s₁ m 2 #[rv asr, iv u, .unset] [(.ref asr), (.int u)] _
    exact kt)
  have ls2 := own_alen X0 hx hZ e0 Asr (g := (mkF m 2 #[rv asr, iv u, .unset] [(.ref asr), (.int u)])) rfl rfl (hb hby d6_2)
  have st3 : own_Go p e below (s₁.setTop (mkF m 3 #[rv asr, iv u, .unset] [(.int (Int32.ofNat n)), (.int u)])) B0 := fun t kt => st1 t (ls2 t kt)
  have hc4 : ¬ (u = (Int32.ofNat n)) := fun z => by
      have e := (own_nat32 hn31).1
      rw [← z, hk] at e
      omega
  have st5 : own_Go p e below (s₁.setTop (mkF m 15 #[rv asr, iv u, .unset] [(.int u)])) B0 := fun t kt => st3 t (by
    show own_At p e below s₁ m 3 #[rv asr, iv u, .unset] [(.int (Int32.ofNat n)), (.int u)] _
    refine XS.icmpYes X0.here hx rfl (pc0 := 3) (pc' := 14) rfl (hb hby d6_3) rfl (feq hc4).2 (by decide) (by decide) ?_
    show own_At p e below s₁ m 14 #[rv asr, iv u, .unset] [] _
    refine XS.iloadN X0.here hx rfl (hb hby d6_14) rfl ?_
    show own_At p e below s₁ m 15 #[rv asr, iv u, .unset] [(.int u)] _
    exact kt)
  obtain ⟨T6, h6, c6, X6, e6, E6, A6, ls6⟩ := newP X0 hx hZ (hw _ (List.mem_of_getElem? (i := 7) rfl)) e0 (g := (mkF m 15 #[rv asr, iv u, .unset] [(.int u)])) rfl (hb hby d6_15) rfl (hu) (cap := 16) (by rw [hk]; exact hk16) (by decide) (by decide) (by decide)
  obtain ⟨bn, g6⟩ : ∃ z, z = h0.size := ⟨_, rfl⟩
  rw [← g6] at A6 ls6
  have ne_asr_bn : asr ≠ bn := Nat.ne_of_lt (Nat.lt_of_lt_of_le Asr.lt (Nat.le_of_eq g6.symm))
  have g_bn : n0 ≤ bn := Nat.le_trans Z0 (Nat.le_of_eq g6.symm)
  have sz_bn : h0.size ≤ bn := Nat.le_trans k0.1 (Nat.le_of_eq g6.symm)
  have f7 := Asr.ext E6
  have z8 := Nat.le_trans Z0 E6.1
  have k9 := k0.ext E6
  have f10 : own_Av Z h6 bn .int k (fun _ => (.int (0 : Int32))) := own_Av.new A6 (hu) (hk)
  have st11 : own_Go p e below (T6.setTop (mkF m 17 #[rv asr, iv u, .unset] [(.ref bn)])) B0 := fun t kt => st5 t (ls6 t kt)
  have st12 : own_Go p e below (T6.setTop (mkF m 23 #[rv asr, iv u, rv bn] [(.ref asr), (.int (0 : Int32)), (.ref bn), (.int (0 : Int32)), (.ref asr)])) B0 := fun t kt => st11 t (by
    show own_At p e below T6 m 17 #[rv asr, iv u, .unset] [(.ref bn)] _
    refine XS.astoreN X6.here hx rfl (hb hby d6_17) rfl rfl (l' := #[rv asr, iv u, rv bn]) rfl ?_
    show own_At p e below T6 m 18 #[rv asr, iv u, rv bn] [] _
    refine XS.aloadN X6.here hx rfl (hb hby d6_18) rfl rfl ?_
    show own_At p e below T6 m 19 #[rv asr, iv u, rv bn] [(.ref asr)] _
    refine XS.iconst X6.here hx rfl (hb hby d6_19) ?_
    show own_At p e below T6 m 20 #[rv asr, iv u, rv bn] [(.int (0 : Int32)), (.ref asr)] _
    refine XS.aloadN X6.here hx rfl (hb hby d6_20) rfl rfl ?_
    show own_At p e below T6 m 21 #[rv asr, iv u, rv bn] [(.ref bn), (.int (0 : Int32)), (.ref asr)] _
    refine XS.iconst X6.here hx rfl (hb hby d6_21) ?_
    show own_At p e below T6 m 22 #[rv asr, iv u, rv bn] [(.int (0 : Int32)), (.ref bn), (.int (0 : Int32)), (.ref asr)] _
    refine XS.aloadN X6.here hx rfl (hb hby d6_22) rfl rfl ?_
    show own_At p e below T6 m 23 #[rv asr, iv u, rv bn] [(.ref asr), (.int (0 : Int32)), (.ref bn), (.int (0 : Int32)), (.ref asr)] _
    exact kt)
  have ls13 := own_alen X6 hx hZ e6 f7 (g := (mkF m 23 #[rv asr, iv u, rv bn] [(.ref asr), (.int (0 : Int32)), (.ref bn), (.int (0 : Int32)), (.ref asr)])) rfl rfl (hb hby d6_23)
  have st14 : own_Go p e below (T6.setTop (mkF m 24 #[rv asr, iv u, rv bn] [(.int (Int32.ofNat n)), (.int (0 : Int32)), (.ref bn), (.int (0 : Int32)), (.ref asr)])) B0 := fun t kt => st12 t (ls13 t kt)
  have st15 : own_Go p e below (T6.setTop (mkF m 25 #[rv asr, iv u, rv bn] [(.int u), (.int (Int32.ofNat n)), (.int (0 : Int32)), (.ref bn), (.int (0 : Int32)), (.ref asr)])) B0 := fun t kt => st14 t (by
    show own_At p e below T6 m 24 #[rv asr, iv u, rv bn] [(.int (Int32.ofNat n)), (.int (0 : Int32)), (.ref bn), (.int (0 : Int32)), (.ref asr)] _
    refine XS.iloadN X6.here hx rfl (hb hby d6_24) rfl ?_
    show own_At p e below T6 m 25 #[rv asr, iv u, rv bn] [(.int u), (.int (Int32.ofNat n)), (.int (0 : Int32)), (.ref bn), (.int (0 : Int32)), (.ref asr)] _
    exact kt)
  obtain ⟨_, _, ⟨T16, L16, k16, n16⟩, -, X16, ⟨Lc16, hQ16, l16, y16, z16⟩, ls16⟩ := Jvm.LawKit.callS X6 hx (y := (⟨"java/lang/Math", "min", "(II)I"⟩ : MethodName)) hown (mvT hZ (hw _ (List.mem_of_getElem? (i := 39) rfl))) (mvT hZ (hw _ (List.mem_of_getElem? (i := 1) rfl))) (mvT hZ (hw _ (List.mem_of_getElem? (i := 2) rfl))) (mvT hZ (hw _ (List.mem_of_getElem? (i := 3) rfl))) (by decide) (backOf (W := 4) (rm_min l Z a0 hw [] ((Int32.ofNat n)) u h6 n0 z8) hZ (hw _ (List.mem_of_getElem? (i := 3) rfl)) (hw _ (List.mem_of_getElem? (i := 2) rfl)) (by decide) (by decide)) (g := (mkF m 25 #[rv asr, iv u, rv bn] [(.int u), (.int (Int32.ofNat n)), (.int (0 : Int32)), (.ref bn), (.int (0 : Int32)), (.ref asr)])) rfl (by rw [hml]; rfl) (argsL := [(.int (Int32.ofNat n)), (.int u)]) (rest := [(.int (0 : Int32)), (.ref bn), (.int (0 : Int32)), (.ref asr)]) (lenOf own_pd0 rfl) rfl (by show 2 * 0 + _ ≤ _; exact Nat.le_of_eq rfl) (hb hby d6_25) (fun _ _ => ⟨rfl, e6, (by decide : 1 + 0 ≤ _), (by decide : 16 + 0 ≤ _)⟩)
  dsimp only [Pt.U, Pt.locs, Pt.cells, Pt.slots] at X16 l16 y16 z16 ls16 hQ16
  subst l16 y16 z16
  obtain ⟨rfl, Nq16, eq16⟩ := hQ16
  have N16 := Fr.app N0 Nq16
  have st17 : own_Go p e below (T16.setTop (mkF m 28 #[rv asr, iv u, rv bn] [(.int (own_mn (Int32.ofNat n) u)), (.int (0 : Int32)), (.ref bn), (.int (0 : Int32)), (.ref asr)])) B0 := fun t kt => st15 t (ls16 t kt)
  have hmn := own_mn_r hn31 hu hk hkn
  obtain ⟨T18, h18, L18, X18, e18, N18, K18, B18, ls18⟩ := own_cp X16 hx hZ hown (hw _ (List.mem_of_getElem? (i := 40) rfl)) (hw _ (List.mem_of_getElem? (i := 43) rfl)) (hw _ (List.mem_of_getElem? (i := 41) rfl)) (hw _ (List.mem_of_getElem? (i := 42) rfl)) eq16 (ty := .int) rfl f7 f10 (fun _ _ => rfl) (fun _ _ => rfl) (i := 0) (j := 0) (k := k) (by decide) (by decide) (by decide) (by decide) (by rw [hmn]; exact hu) (by rw [hmn]; exact hk) (by omega) (by omega) N16 g_bn (g := (mkF m 28 #[rv asr, iv u, rv bn] [(.int (own_mn (Int32.ofNat n) u)), (.int (0 : Int32)), (.ref bn), (.int (0 : Int32)), (.ref asr)])) rfl (by rw [hml]; rfl) rfl (hb hby d6_28) (by decide) (W := 0) (by show 2 * 0 + _ ≤ _; exact Nat.le_of_eq rfl) (by decide)
  have f19 := f7.keep K18 (ninS ne_asr_bn nin0)
  have z21 := Nat.le_trans z8 K18.1
  have k22 := Keep.trans k9 K18 (allS (P := fun x => x ∈ [] ∨ h0.size ≤ x) (Or.inr sz_bn) all0)
  have f23 : own_Av Z h18 bn .int k (fun q => .int (gg q)) := B18.congr (fun q hq => by simp [hq])
  have st24 : own_Go p e below (T18.setTop (mkF m 31 #[rv asr, iv u, rv bn] [])) B0 := fun t kt => st17 t (ls18 t kt)
  have st25 : own_Go p e below (T18.setTop (mkF m 32 #[rv asr, iv u, rv bn] [(.ref bn)])) B0 := fun t kt => st24 t (by
    show own_At p e below T18 m 31 #[rv asr, iv u, rv bn] [] _
    refine XS.aloadN X18.here hx rfl (hb hby d6_31) rfl rfl ?_
    show own_At p e below T18 m 32 #[rv asr, iv u, rv bn] [(.ref bn)] _
    exact kt)
  obtain ⟨fs, hr, hrun, hended, hW, hsame⟩ := X18.leave (v := (some (.ref bn))) (fun h => by rw [Bd.returns] at h; cases h)
  subst hB0
  refine ⟨_, _, st25 _ ?_, hrun, hended, _, _, rfl, ?_, ⟨_, rfl⟩, hW, hsame.mono (by decide) (by decide)⟩
  · exact retOut X18 hx Bd.returns rfl (Or.inr (Or.inr (Or.inr (Or.inr ⟨rfl, rfl, rfl⟩)))) (hb hby d6_32) hr
  · show Q_rm_copyOf Z asr u n gg k h0 n0 _ T18.heap _
    rw [e18]
    exact ⟨bn, rfl, N18, k22, g_bn, sz_bn, f23⟩
def Q_rm_pages4 (Z : State)  (h0 : Heap) (n0 : Nat) (v : Option Value) (h : Heap) (L : List Loc) : Prop := ∃ b t0, v = some (.ref b) ∧ Fr n0 L ∧ Keep h0 h [] ∧ n0 ≤ b ∧ h0.size ≤ b ∧ n0 ≤ t0 ∧ h0.size ≤ t0 ∧ b ≠ t0 ∧ own_Av Z h b (.array .int) 1 (fun _ => .ref t0) ∧ own_Av Z h t0 .int 4 (fun _ => .int 0)
set_option maxRecDepth 65536 in
set_option maxHeartbeats 40000000 in
theorem rm_pages4 (l : Launch) (Z : State) (a0 : Array Value) (hw : ∀ d ∈ tables_1, d.before a0 Z = true) (ws : List Jvm.Cond)  (h0 : Heap) (n0 : Nat) (Z0 : n0 ≤ h0.size) :
    MetFree l (⟨"com/example/ranked_text_search/rankedtextsearch/MemoryTermVectors", "pages", "(I)[[I"⟩ : MethodName) (head1 (Jvm.Cond.code (⟨"com/example/ranked_text_search/rankedtextsearch/MemoryTermVectors", "pages", "(I)[[I"⟩ : MethodName) prog_50_method_2_code 3 (some (.array (.array .int))) :: ws) ({ frames := 1, cells := 2, slots := 5, locals := 15 } : Room)) (fun a U => a = #[(.int (4 : Int32))] ∧ Z.Warmed39 U.vm ∧ U.heap = h0) (fun _ _ _ _ _ => True) (fun _ U o U' => ∃ v L, o = .returned v ∧ Q_rm_pages4 Z  h0 n0 v U'.heap L ∧ FrameEnd U o U' L ({ frames := 1, cells := 2, slots := 5, locals := 15 } : Room).cells ({ frames := 1, cells := 2, slots := 5, locals := 15 } : Room).slots) := by
  refine MetFree.of_bodySF (plainFor_of_name own_pn2) hisR ?_
  intro p e s m args below meth c s₁ Bd hml0 hP hK
  obtain ⟨rfl, hZ, hh⟩ := hP
  have hx := Bd.exec
  have hby := Bd.bytes
  have hml : c.maxLocals = 3 := hml0
  have hown : s.vm.findClass "com/example/ranked_text_search/rankedtextsearch/MemoryTermVectors" = some m.cls := findClass_of_methodNamed Bd.named
  have hnm := (name_of_methodNamed Bd.named Bd.method).1
  have X0 : Stand p l e ({ frames := 1, cells := 2, slots := 5, locals := 15 } : Room) s m #[(.int (4 : Int32))] below meth c s₁ [] 0 0 := Stand.of_body Bd
  have e0 : s₁.heap = h0 := by rw [← hh, Bd.state]; rfl
  have N0 := Fr.nil n0
  obtain ⟨B0, hB0⟩ : ∃ B, B = (s₁.setTop (entryFrame m #[(.int (4 : Int32))] 3)) := ⟨_, rfl⟩
  have st0 : own_Go p e below (s₁.setTop (mkF m 0 #[iv (4 : Int32), .unset, .unset] [])) B0 := fun t k => hB0 ▸ castTop (own_ef5_I m (4 : Int32)) k
  have k0 : Keep h0 h0 [] := Keep.refl _ _
  have st1 : own_Go p e below (s₁.setTop (mkF m 12 #[iv (4 : Int32), .unset, .unset] [(.int (1 : Int32))])) B0 := fun t kt => st0 t (by
    show own_At p e below s₁ m 0 #[iv (4 : Int32), .unset, .unset] [] _
    refine XS.iloadN X0.here hx rfl (hb hby d5_0) rfl ?_
    show own_At p e below s₁ m 1 #[iv (4 : Int32), .unset, .unset] [(.int (4 : Int32))] _
    refine XS.i2l X0.here hx rfl (hb hby d5_1) rfl ?_
    show own_At p e below s₁ m 2 #[iv (4 : Int32), .unset, .unset] [(.long ((4 : Int32).toInt64))] _
    refine X0.ldc2Long hx hown (mvT hZ (hw _ (List.mem_of_getElem? (i := 26) rfl))) (g := (mkF m 2 #[iv (4 : Int32), .unset, .unset] [(.long ((4 : Int32).toInt64))])) rfl (hb hby d5_2) _ ?_
    show own_At p e below s₁ m 5 #[iv (4 : Int32), .unset, .unset] [(.long (16384 : Int64)), (.long ((4 : Int32).toInt64))] _
    refine XS.ladd X0.here hx rfl (hb hby d5_5) rfl ?_
    show own_At p e below s₁ m 6 #[iv (4 : Int32), .unset, .unset] [(.long (((4 : Int32).toInt64) + (16384 : Int64)))] _
    refine XS.lconst X0.here hx rfl (hb hby d5_6) ?_
    show own_At p e below s₁ m 7 #[iv (4 : Int32), .unset, .unset] [(.long (1 : Int64)), (.long (((4 : Int32).toInt64) + (16384 : Int64)))] _
    refine XS.lsub X0.here hx rfl (hb hby d5_7) rfl ?_
    show own_At p e below s₁ m 8 #[iv (4 : Int32), .unset, .unset] [(.long ((((4 : Int32).toInt64) + (16384 : Int64)) - (1 : Int64)))] _
    refine XS.bipush X0.here hx rfl (hb hby d5_8) ?_
    show own_At p e below s₁ m 10 #[iv (4 : Int32), .unset, .unset] [(.int (14 : Int32)), (.long ((((4 : Int32).toInt64) + (16384 : Int64)) - (1 : Int64)))] _
    refine XS.lushr X0.here hx rfl (hb hby d5_10) rfl ?_
    show own_At p e below s₁ m 11 #[iv (4 : Int32), .unset, .unset] [(.long ((((((4 : Int32).toInt64) + (16384 : Int64)) - (1 : Int64)).toUInt64 >>> ((14 : Int32) &&& 0x3f).toInt64.toUInt64).toInt64))] _
    refine XS.l2i X0.here hx rfl (hb hby d5_11) rfl ?_
    show own_At p e below s₁ m 12 #[iv (4 : Int32), .unset, .unset] [(.int (((((((4 : Int32).toInt64) + (16384 : Int64)) - (1 : Int64)).toUInt64 >>> ((14 : Int32) &&& 0x3f).toInt64.toUInt64).toInt64).toInt32))] _
    rw [show (((((((4 : Int32).toInt64) + (16384 : Int64)) - (1 : Int64)).toUInt64 >>> ((14 : Int32) &&& 0x3f).toInt64.toUInt64).toInt64).toInt32) = (1 : Int32) from (by decide +kernel)]
    show own_At p e below s₁ m 12 #[iv (4 : Int32), .unset, .unset] [(.int (1 : Int32))] _
    exact kt)
  obtain ⟨T2, h2, c2, X2, e2, E2, A2, B2, O2, ls2⟩ := newRA X0 hx hZ hown (C := "[I") (ty := .int) (by decide) (hw _ (List.mem_of_getElem? (i := 27) rfl)) (hw _ (List.mem_of_getElem? (i := 28) rfl)) e0 (g := (mkF m 12 #[iv (4 : Int32), .unset, .unset] [(.int (1 : Int32))])) rfl (hb hby d5_12) rfl (by decide) (cap := 1) (by decide) (by decide) (by decide) (by decide) (ad := "[[I") (by decide)
  obtain ⟨bp, g2⟩ : ∃ z, z = h0.size := ⟨_, rfl⟩
  rw [← g2] at A2 B2 ls2
  have g_bp : n0 ≤ bp := Nat.le_trans Z0 (Nat.le_of_eq g2.symm)
  have sz_bp : h0.size ≤ bp := Nat.le_trans k0.1 (Nat.le_of_eq g2.symm)
  have z3 := Nat.le_trans Z0 E2.1
  have k4 := k0.ext E2
  have f5 : own_Ra Z h2 bp .int "[I" 1 (fun _ => .null) := own_Ra.new A2 O2 (by decide) (by decide)
  have st6 : own_Go p e below (T2.setTop (mkF m 15 #[iv (4 : Int32), .unset, .unset] [(.ref bp)])) B0 := fun t kt => st1 t (ls2 t kt)
  have st7 : own_Go p e below (T2.setTop (mkF m 20 #[iv (4 : Int32), rv bp, iv (0 : Int32)] [(.ref bp), (.int (0 : Int32))])) B0 := fun t kt => st6 t (by
    show own_At p e below T2 m 15 #[iv (4 : Int32), .unset, .unset] [(.ref bp)] _
    refine XS.astoreN X2.here hx rfl (hb hby d5_15) rfl rfl (l' := #[iv (4 : Int32), rv bp, .unset]) rfl ?_
    show own_At p e below T2 m 16 #[iv (4 : Int32), rv bp, .unset] [] _
    refine XS.iconst X2.here hx rfl (hb hby d5_16) ?_
    show own_At p e below T2 m 17 #[iv (4 : Int32), rv bp, .unset] [(.int (0 : Int32))] _
    refine XS.istoreN X2.here hx rfl (hb hby d5_17) rfl (l' := #[iv (4 : Int32), rv bp, iv (0 : Int32)]) rfl ?_
    show own_At p e below T2 m 18 #[iv (4 : Int32), rv bp, iv (0 : Int32)] [] _
    refine XS.iloadN X2.here hx rfl (hb hby d5_18) rfl ?_
    show own_At p e below T2 m 19 #[iv (4 : Int32), rv bp, iv (0 : Int32)] [(.int (0 : Int32))] _
    refine XS.aloadN X2.here hx rfl (hb hby d5_19) rfl rfl ?_
    show own_At p e below T2 m 20 #[iv (4 : Int32), rv bp, iv (0 : Int32)] [(.ref bp), (.int (0 : Int32))] _
    exact kt)
  have ls8 := own_alen X2 hx hZ e2 f5.av (g := (mkF m 20 #[iv (4 : Int32), rv bp, iv (0 : Int32)] [(.ref bp), (.int (0 : Int32))])) rfl rfl (hb hby d5_20)
  have st9 : own_Go p e below (T2.setTop (mkF m 21 #[iv (4 : Int32), rv bp, iv (0 : Int32)] [(.int (1 : Int32)), (.int (0 : Int32))])) B0 := fun t kt => st7 t (ls8 t kt)
  have hc10 : (0 : Int32) < (1 : Int32) := by decide
  have st11 : own_Go p e below (T2.setTop (mkF m 35 #[iv (4 : Int32), rv bp, iv (0 : Int32)] [(.int (4 : Int32)), (.int (16384 : Int32)), (.int (0 : Int32)), (.ref bp)])) B0 := fun t kt => st9 t (by
    show own_At p e below T2 m 21 #[iv (4 : Int32), rv bp, iv (0 : Int32)] [(.int (1 : Int32)), (.int (0 : Int32))] _
    refine XS.icmpNo X2.here hx rfl (hb hby d5_21) rfl (tlt hc10).2.1 ?_
    show own_At p e below T2 m 24 #[iv (4 : Int32), rv bp, iv (0 : Int32)] [] _
    refine XS.aloadN X2.here hx rfl (hb hby d5_24) rfl rfl ?_
    show own_At p e below T2 m 25 #[iv (4 : Int32), rv bp, iv (0 : Int32)] [(.ref bp)] _
    refine XS.iloadN X2.here hx rfl (hb hby d5_25) rfl ?_
    show own_At p e below T2 m 26 #[iv (4 : Int32), rv bp, iv (0 : Int32)] [(.int (0 : Int32)), (.ref bp)] _
    refine XS.sipush X2.here hx rfl (hb hby d5_26) ?_
    show own_At p e below T2 m 29 #[iv (4 : Int32), rv bp, iv (0 : Int32)] [(.int (16384 : Int32)), (.int (0 : Int32)), (.ref bp)] _
    refine XS.iloadN X2.here hx rfl (hb hby d5_29) rfl ?_
    show own_At p e below T2 m 30 #[iv (4 : Int32), rv bp, iv (0 : Int32)] [(.int (4 : Int32)), (.int (16384 : Int32)), (.int (0 : Int32)), (.ref bp)] _
    refine XS.iloadN X2.here hx rfl (hb hby d5_30) rfl ?_
    show own_At p e below T2 m 31 #[iv (4 : Int32), rv bp, iv (0 : Int32)] [(.int (0 : Int32)), (.int (4 : Int32)), (.int (16384 : Int32)), (.int (0 : Int32)), (.ref bp)] _
    refine XS.bipush X2.here hx rfl (hb hby d5_31) ?_
    show own_At p e below T2 m 33 #[iv (4 : Int32), rv bp, iv (0 : Int32)] [(.int (14 : Int32)), (.int (0 : Int32)), (.int (4 : Int32)), (.int (16384 : Int32)), (.int (0 : Int32)), (.ref bp)] _
    refine XS.ishl X2.here hx rfl (hb hby d5_33) rfl ?_
    show own_At p e below T2 m 34 #[iv (4 : Int32), rv bp, iv (0 : Int32)] [(.int ((0 : Int32) <<< ((14 : Int32) &&& 31))), (.int (4 : Int32)), (.int (16384 : Int32)), (.int (0 : Int32)), (.ref bp)] _
    refine XS.isub X2.here hx rfl (hb hby d5_34) rfl ?_
    show own_At p e below T2 m 35 #[iv (4 : Int32), rv bp, iv (0 : Int32)] [(.int ((4 : Int32) - ((0 : Int32) <<< ((14 : Int32) &&& 31)))), (.int (16384 : Int32)), (.int (0 : Int32)), (.ref bp)] _
    rw [show ((4 : Int32) - ((0 : Int32) <<< ((14 : Int32) &&& 31))) = (4 : Int32) from (by decide +kernel)]
    show own_At p e below T2 m 35 #[iv (4 : Int32), rv bp, iv (0 : Int32)] [(.int (4 : Int32)), (.int (16384 : Int32)), (.int (0 : Int32)), (.ref bp)] _
    exact kt)
  obtain ⟨_, _, ⟨T12, L12, k12, n12⟩, -, X12, ⟨Lc12, hQ12, l12, y12, z12⟩, ls12⟩ := Jvm.LawKit.callS X2 hx (y := (⟨"java/lang/Math", "min", "(II)I"⟩ : MethodName)) hown (mvT hZ (hw _ (List.mem_of_getElem? (i := 29) rfl))) (mvT hZ (hw _ (List.mem_of_getElem? (i := 1) rfl))) (mvT hZ (hw _ (List.mem_of_getElem? (i := 2) rfl))) (mvT hZ (hw _ (List.mem_of_getElem? (i := 3) rfl))) (by decide) (backOf (W := 2) (rm_min l Z a0 hw [] ((16384 : Int32)) ((4 : Int32)) h2 n0 z3) hZ (hw _ (List.mem_of_getElem? (i := 3) rfl)) (hw _ (List.mem_of_getElem? (i := 2) rfl)) (by decide) (by decide)) (g := (mkF m 35 #[iv (4 : Int32), rv bp, iv (0 : Int32)] [(.int (4 : Int32)), (.int (16384 : Int32)), (.int (0 : Int32)), (.ref bp)])) rfl (by rw [hml]; rfl) (argsL := [(.int (16384 : Int32)), (.int (4 : Int32))]) (rest := [(.int (0 : Int32)), (.ref bp)]) (lenOf own_pd0 rfl) rfl (by show 2 * 0 + _ ≤ _; exact Nat.le_of_eq rfl) (hb hby d5_35) (fun _ _ => ⟨rfl, e2, (by decide : 1 + 0 ≤ _), (by decide : 1 + 0 ≤ _)⟩)
  dsimp only [Pt.U, Pt.locs, Pt.cells, Pt.slots] at X12 l12 y12 z12 ls12 hQ12
  subst l12 y12 z12
  obtain ⟨rfl, Nq12, eq12⟩ := hQ12
  have N12 := Fr.app N0 Nq12
  have st13 : own_Go p e below (T12.setTop (mkF m 38 #[iv (4 : Int32), rv bp, iv (0 : Int32)] [(.int (own_mn (16384 : Int32) (4 : Int32))), (.int (0 : Int32)), (.ref bp)])) B0 := fun t kt => st11 t (ls12 t kt)
  have st14 : own_Go p e below (T12.setTop (mkF m 38 #[iv (4 : Int32), rv bp, iv (0 : Int32)] [(.int (4 : Int32)), (.int (0 : Int32)), (.ref bp)])) B0 := fun t kt => st13 t (by
    show own_At p e below T12 m 38 #[iv (4 : Int32), rv bp, iv (0 : Int32)] [(.int (own_mn (16384 : Int32) (4 : Int32))), (.int (0 : Int32)), (.ref bp)] _
    rw [show (own_mn (16384 : Int32) (4 : Int32)) = (4 : Int32) from (by decide +kernel)]
    show own_At p e below T12 m 38 #[iv (4 : Int32), rv bp, iv (0 : Int32)] [(.int (4 : Int32)), (.int (0 : Int32)), (.ref bp)] _
    exact kt)
  obtain ⟨T15, h15, c15, X15, e15, E15, A15, B15, ls15⟩ := newPE X12 hx hZ (hw _ (List.mem_of_getElem? (i := 7) rfl)) eq12 (g := (mkF m 38 #[iv (4 : Int32), rv bp, iv (0 : Int32)] [(.int (4 : Int32)), (.int (0 : Int32)), (.ref bp)])) rfl (hb hby d5_38) rfl (by decide) (cap := 4) (by decide) (by decide) (by decide) (by decide) (ad := "[I") (by decide)
  obtain ⟨t0, g15⟩ : ∃ z, z = h2.size := ⟨_, rfl⟩
  rw [← g15] at A15 B15 ls15
  have ne_bp_t0 : bp ≠ t0 := Nat.ne_of_lt (Nat.lt_of_lt_of_le f5.lt (Nat.le_of_eq g15.symm))
  have g_t0 : n0 ≤ t0 := Nat.le_trans z3 (Nat.le_of_eq g15.symm)
  have sz_t0 : h0.size ≤ t0 := Nat.le_trans k4.1 (Nat.le_of_eq g15.symm)
  have f16 := f5.ext E15
  have z17 := Nat.le_trans z3 E15.1
  have k18 := k4.ext E15
  have f19 : own_Av Z h15 t0 .int 4 (fun _ => (.int (0 : Int32))) := own_Av.new A15 (by decide) (by decide)
  have st20 : own_Go p e below (T15.setTop (mkF m 40 #[iv (4 : Int32), rv bp, iv (0 : Int32)] [(.ref t0), (.int (0 : Int32)), (.ref bp)])) B0 := fun t kt => st14 t (ls15 t kt)
  obtain ⟨T21, h21, X21, e21, W21, B21, ls21⟩ := own_aastore X15 hx hZ e15 f16 B15 (j := (0 : Int32)) (i := 0) (by decide) (by decide) (by decide) (g := (mkF m 40 #[iv (4 : Int32), rv bp, iv (0 : Int32)] [(.ref t0), (.int (0 : Int32)), (.ref bp)])) rfl rfl (hb hby d5_40)
  have N21 := Fr.snoc X21 N12 g_bp
  have f22 := f19.other W21 (Ne.symm ne_bp_t0)
  have f23 := B15.wr W21
  have z24 := Nat.le_trans z17 (Keep.of_wr W21).1
  have k25 := k18.wr W21 (Or.inr sz_bp)
  have f26 := B21
  have st27 : own_Go p e below (T21.setTop (mkF m 41 #[iv (4 : Int32), rv bp, iv (0 : Int32)] [])) B0 := fun t kt => st20 t (ls21 t kt)
  have st28 : own_Go p e below (T21.setTop (mkF m 20 #[iv (4 : Int32), rv bp, iv ((0 : Int32) + (1 : Int32))] [(.ref bp), (.int ((0 : Int32) + (1 : Int32)))])) B0 := fun t kt => st27 t (by
    show own_At p e below T21 m 41 #[iv (4 : Int32), rv bp, iv (0 : Int32)] [] _
    refine XS.iinc X21.here hx rfl (hb hby d5_41) rfl (l' := #[iv (4 : Int32), rv bp, iv ((0 : Int32) + (1 : Int32))]) rfl ?_
    show own_At p e below T21 m 44 #[iv (4 : Int32), rv bp, iv ((0 : Int32) + (1 : Int32))] [] _
    refine XS.goto X21.here hx rfl (pc0 := 44) (pc' := 18) rfl (hb hby d5_44) (by decide) (by decide) ?_
    show own_At p e below T21 m 18 #[iv (4 : Int32), rv bp, iv ((0 : Int32) + (1 : Int32))] [] _
    refine XS.iloadN X21.here hx rfl (hb hby d5_18) rfl ?_
    show own_At p e below T21 m 19 #[iv (4 : Int32), rv bp, iv ((0 : Int32) + (1 : Int32))] [(.int ((0 : Int32) + (1 : Int32)))] _
    refine XS.aloadN X21.here hx rfl (hb hby d5_19) rfl rfl ?_
    show own_At p e below T21 m 20 #[iv (4 : Int32), rv bp, iv ((0 : Int32) + (1 : Int32))] [(.ref bp), (.int ((0 : Int32) + (1 : Int32)))] _
    exact kt)
  have ls29 := own_alen X21 hx hZ e21 f26.av (g := (mkF m 20 #[iv (4 : Int32), rv bp, iv ((0 : Int32) + (1 : Int32))] [(.ref bp), (.int ((0 : Int32) + (1 : Int32)))])) rfl rfl (hb hby d5_20)
  have st30 : own_Go p e below (T21.setTop (mkF m 21 #[iv (4 : Int32), rv bp, iv ((0 : Int32) + (1 : Int32))] [(.int (1 : Int32)), (.int ((0 : Int32) + (1 : Int32)))])) B0 := fun t kt => st28 t (ls29 t kt)
  have hc31 : ¬ (((0 : Int32) + (1 : Int32)) < (1 : Int32)) := by decide
  have st32 : own_Go p e below (T21.setTop (mkF m 48 #[iv (4 : Int32), rv bp, iv ((0 : Int32) + (1 : Int32))] [(.ref bp)])) B0 := fun t kt => st30 t (by
    show own_At p e below T21 m 21 #[iv (4 : Int32), rv bp, iv ((0 : Int32) + (1 : Int32))] [(.int (1 : Int32)), (.int ((0 : Int32) + (1 : Int32)))] _
    refine XS.icmpYes X21.here hx rfl (pc0 := 21) (pc' := 47) rfl (hb hby d5_21) rfl (flt hc31).2.1 (by decide) (by decide) ?_
    show own_At p e below T21 m 47 #[iv (4 : Int32), rv bp, iv ((0 : Int32) + (1 : Int32))] [] _
    refine XS.aloadN X21.here hx rfl (hb hby d5_47) rfl rfl ?_
    show own_At p e below T21 m 48 #[iv (4 : Int32), rv bp, iv ((0 : Int32) + (1 : Int32))] [(.ref bp)] _
    exact kt)
  obtain ⟨fs, hr, hrun, hended, hW, hsame⟩ := X21.leave (v := (some (.ref bp))) (fun h => by rw [Bd.returns] at h; cases h)
  subst hB0
  refine ⟨_, _, st32 _ ?_, hrun, hended, _, _, rfl, ?_, ⟨_, rfl⟩, hW, hsame.mono (by decide) (by decide)⟩
  · exact retOut X21 hx Bd.returns rfl (Or.inr (Or.inr (Or.inr (Or.inr ⟨rfl, rfl, rfl⟩)))) (hb hby d5_48) hr
  · show Q_rm_pages4 Z  h0 n0 _ T21.heap _
    rw [e21]
    exact ⟨bp, t0, rfl, N21, k25, g_bp, sz_bp, g_t0, sz_t0, ne_bp_t0, f26.av.congr (fun q hq => match q, hq with | 0, _ => rfl | _ + 1, z => absurd z (by omega)), f22⟩
def Q_rm_pages16386 (Z : State)  (h0 : Heap) (n0 : Nat) (v : Option Value) (h : Heap) (L : List Loc) : Prop := ∃ b t0 t1, v = some (.ref b) ∧ Fr n0 L ∧ Keep h0 h [] ∧ n0 ≤ b ∧ h0.size ≤ b ∧ n0 ≤ t0 ∧ h0.size ≤ t0 ∧ b ≠ t0 ∧ n0 ≤ t1 ∧ h0.size ≤ t1 ∧ b ≠ t1 ∧ t0 ≠ t1 ∧ own_Av Z h b (.array .int) 2 (fun q => .ref (if q = 0 then t0 else t1)) ∧ own_Av Z h t0 .int 16384 (fun _ => .int 0) ∧ own_Av Z h t1 .int 2 (fun _ => .int 0)
set_option maxRecDepth 65536 in
set_option maxHeartbeats 40000000 in
theorem rm_pages16386 (l : Launch) (Z : State) (a0 : Array Value) (hw : ∀ d ∈ tables_1, d.before a0 Z = true) (ws : List Jvm.Cond)  (h0 : Heap) (n0 : Nat) (Z0 : n0 ≤ h0.size) :
    MetFree l (⟨"com/example/ranked_text_search/rankedtextsearch/MemoryTermVectors", "pages", "(I)[[I"⟩ : MethodName) (head1 (Jvm.Cond.code (⟨"com/example/ranked_text_search/rankedtextsearch/MemoryTermVectors", "pages", "(I)[[I"⟩ : MethodName) prog_50_method_2_code 3 (some (.array (.array .int))) :: ws) ({ frames := 1, cells := 3, slots := 16388, locals := 15 } : Room)) (fun a U => a = #[(.int (16386 : Int32))] ∧ Z.Warmed39 U.vm ∧ U.heap = h0) (fun _ _ _ _ _ => True) (fun _ U o U' => ∃ v L, o = .returned v ∧ Q_rm_pages16386 Z  h0 n0 v U'.heap L ∧ FrameEnd U o U' L ({ frames := 1, cells := 3, slots := 16388, locals := 15 } : Room).cells ({ frames := 1, cells := 3, slots := 16388, locals := 15 } : Room).slots) := by
  refine MetFree.of_bodySF (plainFor_of_name own_pn2) hisR ?_
  intro p e s m args below meth c s₁ Bd hml0 hP hK
  obtain ⟨rfl, hZ, hh⟩ := hP
  have hx := Bd.exec
  have hby := Bd.bytes
  have hml : c.maxLocals = 3 := hml0
  have hown : s.vm.findClass "com/example/ranked_text_search/rankedtextsearch/MemoryTermVectors" = some m.cls := findClass_of_methodNamed Bd.named
  have hnm := (name_of_methodNamed Bd.named Bd.method).1
  have X0 : Stand p l e ({ frames := 1, cells := 3, slots := 16388, locals := 15 } : Room) s m #[(.int (16386 : Int32))] below meth c s₁ [] 0 0 := Stand.of_body Bd
  have e0 : s₁.heap = h0 := by rw [← hh, Bd.state]; rfl
  have N0 := Fr.nil n0
  obtain ⟨B0, hB0⟩ : ∃ B, B = (s₁.setTop (entryFrame m #[(.int (16386 : Int32))] 3)) := ⟨_, rfl⟩
  have st0 : own_Go p e below (s₁.setTop (mkF m 0 #[iv (16386 : Int32), .unset, .unset] [])) B0 := fun t k => hB0 ▸ castTop (own_ef5_I m (16386 : Int32)) k
  have k0 : Keep h0 h0 [] := Keep.refl _ _
  have st1 : own_Go p e below (s₁.setTop (mkF m 12 #[iv (16386 : Int32), .unset, .unset] [(.int (2 : Int32))])) B0 := fun t kt => st0 t (by
    show own_At p e below s₁ m 0 #[iv (16386 : Int32), .unset, .unset] [] _
    refine XS.iloadN X0.here hx rfl (hb hby d5_0) rfl ?_
    show own_At p e below s₁ m 1 #[iv (16386 : Int32), .unset, .unset] [(.int (16386 : Int32))] _
    refine XS.i2l X0.here hx rfl (hb hby d5_1) rfl ?_
    show own_At p e below s₁ m 2 #[iv (16386 : Int32), .unset, .unset] [(.long ((16386 : Int32).toInt64))] _
    refine X0.ldc2Long hx hown (mvT hZ (hw _ (List.mem_of_getElem? (i := 26) rfl))) (g := (mkF m 2 #[iv (16386 : Int32), .unset, .unset] [(.long ((16386 : Int32).toInt64))])) rfl (hb hby d5_2) _ ?_
    show own_At p e below s₁ m 5 #[iv (16386 : Int32), .unset, .unset] [(.long (16384 : Int64)), (.long ((16386 : Int32).toInt64))] _
    refine XS.ladd X0.here hx rfl (hb hby d5_5) rfl ?_
    show own_At p e below s₁ m 6 #[iv (16386 : Int32), .unset, .unset] [(.long (((16386 : Int32).toInt64) + (16384 : Int64)))] _
    refine XS.lconst X0.here hx rfl (hb hby d5_6) ?_
    show own_At p e below s₁ m 7 #[iv (16386 : Int32), .unset, .unset] [(.long (1 : Int64)), (.long (((16386 : Int32).toInt64) + (16384 : Int64)))] _
    refine XS.lsub X0.here hx rfl (hb hby d5_7) rfl ?_
    show own_At p e below s₁ m 8 #[iv (16386 : Int32), .unset, .unset] [(.long ((((16386 : Int32).toInt64) + (16384 : Int64)) - (1 : Int64)))] _
    refine XS.bipush X0.here hx rfl (hb hby d5_8) ?_
    show own_At p e below s₁ m 10 #[iv (16386 : Int32), .unset, .unset] [(.int (14 : Int32)), (.long ((((16386 : Int32).toInt64) + (16384 : Int64)) - (1 : Int64)))] _
    refine XS.lushr X0.here hx rfl (hb hby d5_10) rfl ?_
    show own_At p e below s₁ m 11 #[iv (16386 : Int32), .unset, .unset] [(.long ((((((16386 : Int32).toInt64) + (16384 : Int64)) - (1 : Int64)).toUInt64 >>> ((14 : Int32) &&& 0x3f).toInt64.toUInt64).toInt64))] _
    refine XS.l2i X0.here hx rfl (hb hby d5_11) rfl ?_
    show own_At p e below s₁ m 12 #[iv (16386 : Int32), .unset, .unset] [(.int (((((((16386 : Int32).toInt64) + (16384 : Int64)) - (1 : Int64)).toUInt64 >>> ((14 : Int32) &&& 0x3f).toInt64.toUInt64).toInt64).toInt32))] _
    rw [show (((((((16386 : Int32).toInt64) + (16384 : Int64)) - (1 : Int64)).toUInt64 >>> ((14 : Int32) &&& 0x3f).toInt64.toUInt64).toInt64).toInt32) = (2 : Int32) from (by decide +kernel)]
    show own_At p e below s₁ m 12 #[iv (16386 : Int32), .unset, .unset] [(.int (2 : Int32))] _
    exact kt)
  obtain ⟨T2, h2, c2, X2, e2, E2, A2, B2, O2, ls2⟩ := newRA X0 hx hZ hown (C := "[I") (ty := .int) (by decide) (hw _ (List.mem_of_getElem? (i := 27) rfl)) (hw _ (List.mem_of_getElem? (i := 28) rfl)) e0 (g := (mkF m 12 #[iv (16386 : Int32), .unset, .unset] [(.int (2 : Int32))])) rfl (hb hby d5_12) rfl (by decide) (cap := 2) (by decide) (by decide) (by decide) (by decide) (ad := "[[I") (by decide)
  obtain ⟨bp, g2⟩ : ∃ z, z = h0.size := ⟨_, rfl⟩
  rw [← g2] at A2 B2 ls2
  have g_bp : n0 ≤ bp := Nat.le_trans Z0 (Nat.le_of_eq g2.symm)
  have sz_bp : h0.size ≤ bp := Nat.le_trans k0.1 (Nat.le_of_eq g2.symm)
  have z3 := Nat.le_trans Z0 E2.1
  have k4 := k0.ext E2
  have f5 : own_Ra Z h2 bp .int "[I" 2 (fun _ => .null) := own_Ra.new A2 O2 (by decide) (by decide)
  have st6 : own_Go p e below (T2.setTop (mkF m 15 #[iv (16386 : Int32), .unset, .unset] [(.ref bp)])) B0 := fun t kt => st1 t (ls2 t kt)
  have st7 : own_Go p e below (T2.setTop (mkF m 20 #[iv (16386 : Int32), rv bp, iv (0 : Int32)] [(.ref bp), (.int (0 : Int32))])) B0 := fun t kt => st6 t (by
    show own_At p e below T2 m 15 #[iv (16386 : Int32), .unset, .unset] [(.ref bp)] _
    refine XS.astoreN X2.here hx rfl (hb hby d5_15) rfl rfl (l' := #[iv (16386 : Int32), rv bp, .unset]) rfl ?_
    show own_At p e below T2 m 16 #[iv (16386 : Int32), rv bp, .unset] [] _
    refine XS.iconst X2.here hx rfl (hb hby d5_16) ?_
    show own_At p e below T2 m 17 #[iv (16386 : Int32), rv bp, .unset] [(.int (0 : Int32))] _
    refine XS.istoreN X2.here hx rfl (hb hby d5_17) rfl (l' := #[iv (16386 : Int32), rv bp, iv (0 : Int32)]) rfl ?_
    show own_At p e below T2 m 18 #[iv (16386 : Int32), rv bp, iv (0 : Int32)] [] _
    refine XS.iloadN X2.here hx rfl (hb hby d5_18) rfl ?_
    show own_At p e below T2 m 19 #[iv (16386 : Int32), rv bp, iv (0 : Int32)] [(.int (0 : Int32))] _
    refine XS.aloadN X2.here hx rfl (hb hby d5_19) rfl rfl ?_
    show own_At p e below T2 m 20 #[iv (16386 : Int32), rv bp, iv (0 : Int32)] [(.ref bp), (.int (0 : Int32))] _
    exact kt)
  have ls8 := own_alen X2 hx hZ e2 f5.av (g := (mkF m 20 #[iv (16386 : Int32), rv bp, iv (0 : Int32)] [(.ref bp), (.int (0 : Int32))])) rfl rfl (hb hby d5_20)
  have st9 : own_Go p e below (T2.setTop (mkF m 21 #[iv (16386 : Int32), rv bp, iv (0 : Int32)] [(.int (2 : Int32)), (.int (0 : Int32))])) B0 := fun t kt => st7 t (ls8 t kt)
  have hc10 : (0 : Int32) < (2 : Int32) := by decide
  have st11 : own_Go p e below (T2.setTop (mkF m 35 #[iv (16386 : Int32), rv bp, iv (0 : Int32)] [(.int (16386 : Int32)), (.int (16384 : Int32)), (.int (0 : Int32)), (.ref bp)])) B0 := fun t kt => st9 t (by
    show own_At p e below T2 m 21 #[iv (16386 : Int32), rv bp, iv (0 : Int32)] [(.int (2 : Int32)), (.int (0 : Int32))] _
    refine XS.icmpNo X2.here hx rfl (hb hby d5_21) rfl (tlt hc10).2.1 ?_
    show own_At p e below T2 m 24 #[iv (16386 : Int32), rv bp, iv (0 : Int32)] [] _
    refine XS.aloadN X2.here hx rfl (hb hby d5_24) rfl rfl ?_
    show own_At p e below T2 m 25 #[iv (16386 : Int32), rv bp, iv (0 : Int32)] [(.ref bp)] _
    refine XS.iloadN X2.here hx rfl (hb hby d5_25) rfl ?_
    show own_At p e below T2 m 26 #[iv (16386 : Int32), rv bp, iv (0 : Int32)] [(.int (0 : Int32)), (.ref bp)] _
    refine XS.sipush X2.here hx rfl (hb hby d5_26) ?_
    show own_At p e below T2 m 29 #[iv (16386 : Int32), rv bp, iv (0 : Int32)] [(.int (16384 : Int32)), (.int (0 : Int32)), (.ref bp)] _
    refine XS.iloadN X2.here hx rfl (hb hby d5_29) rfl ?_
    show own_At p e below T2 m 30 #[iv (16386 : Int32), rv bp, iv (0 : Int32)] [(.int (16386 : Int32)), (.int (16384 : Int32)), (.int (0 : Int32)), (.ref bp)] _
    refine XS.iloadN X2.here hx rfl (hb hby d5_30) rfl ?_
    show own_At p e below T2 m 31 #[iv (16386 : Int32), rv bp, iv (0 : Int32)] [(.int (0 : Int32)), (.int (16386 : Int32)), (.int (16384 : Int32)), (.int (0 : Int32)), (.ref bp)] _
    refine XS.bipush X2.here hx rfl (hb hby d5_31) ?_
    show own_At p e below T2 m 33 #[iv (16386 : Int32), rv bp, iv (0 : Int32)] [(.int (14 : Int32)), (.int (0 : Int32)), (.int (16386 : Int32)), (.int (16384 : Int32)), (.int (0 : Int32)), (.ref bp)] _
    refine XS.ishl X2.here hx rfl (hb hby d5_33) rfl ?_
    show own_At p e below T2 m 34 #[iv (16386 : Int32), rv bp, iv (0 : Int32)] [(.int ((0 : Int32) <<< ((14 : Int32) &&& 31))), (.int (16386 : Int32)), (.int (16384 : Int32)), (.int (0 : Int32)), (.ref bp)] _
    refine XS.isub X2.here hx rfl (hb hby d5_34) rfl ?_
    show own_At p e below T2 m 35 #[iv (16386 : Int32), rv bp, iv (0 : Int32)] [(.int ((16386 : Int32) - ((0 : Int32) <<< ((14 : Int32) &&& 31)))), (.int (16384 : Int32)), (.int (0 : Int32)), (.ref bp)] _
    rw [show ((16386 : Int32) - ((0 : Int32) <<< ((14 : Int32) &&& 31))) = (16386 : Int32) from (by decide +kernel)]
    show own_At p e below T2 m 35 #[iv (16386 : Int32), rv bp, iv (0 : Int32)] [(.int (16386 : Int32)), (.int (16384 : Int32)), (.int (0 : Int32)), (.ref bp)] _
    exact kt)
  obtain ⟨_, _, ⟨T12, L12, k12, n12⟩, -, X12, ⟨Lc12, hQ12, l12, y12, z12⟩, ls12⟩ := Jvm.LawKit.callS X2 hx (y := (⟨"java/lang/Math", "min", "(II)I"⟩ : MethodName)) hown (mvT hZ (hw _ (List.mem_of_getElem? (i := 29) rfl))) (mvT hZ (hw _ (List.mem_of_getElem? (i := 1) rfl))) (mvT hZ (hw _ (List.mem_of_getElem? (i := 2) rfl))) (mvT hZ (hw _ (List.mem_of_getElem? (i := 3) rfl))) (by decide) (backOf (W := 2) (rm_min l Z a0 hw [] ((16384 : Int32)) ((16386 : Int32)) h2 n0 z3) hZ (hw _ (List.mem_of_getElem? (i := 3) rfl)) (hw _ (List.mem_of_getElem? (i := 2) rfl)) (by decide) (by decide)) (g := (mkF m 35 #[iv (16386 : Int32), rv bp, iv (0 : Int32)] [(.int (16386 : Int32)), (.int (16384 : Int32)), (.int (0 : Int32)), (.ref bp)])) rfl (by rw [hml]; rfl) (argsL := [(.int (16384 : Int32)), (.int (16386 : Int32))]) (rest := [(.int (0 : Int32)), (.ref bp)]) (lenOf own_pd0 rfl) rfl (by show 2 * 0 + _ ≤ _; exact Nat.le_of_eq rfl) (hb hby d5_35) (fun _ _ => ⟨rfl, e2, (by decide : 1 + 0 ≤ _), (by decide : 2 + 0 ≤ _)⟩)
  dsimp only [Pt.U, Pt.locs, Pt.cells, Pt.slots] at X12 l12 y12 z12 ls12 hQ12
  subst l12 y12 z12
  obtain ⟨rfl, Nq12, eq12⟩ := hQ12
  have N12 := Fr.app N0 Nq12
  have st13 : own_Go p e below (T12.setTop (mkF m 38 #[iv (16386 : Int32), rv bp, iv (0 : Int32)] [(.int (own_mn (16384 : Int32) (16386 : Int32))), (.int (0 : Int32)), (.ref bp)])) B0 := fun t kt => st11 t (ls12 t kt)
  have st14 : own_Go p e below (T12.setTop (mkF m 38 #[iv (16386 : Int32), rv bp, iv (0 : Int32)] [(.int (16384 : Int32)), (.int (0 : Int32)), (.ref bp)])) B0 := fun t kt => st13 t (by
    show own_At p e below T12 m 38 #[iv (16386 : Int32), rv bp, iv (0 : Int32)] [(.int (own_mn (16384 : Int32) (16386 : Int32))), (.int (0 : Int32)), (.ref bp)] _
    rw [show (own_mn (16384 : Int32) (16386 : Int32)) = (16384 : Int32) from (by decide +kernel)]
    show own_At p e below T12 m 38 #[iv (16386 : Int32), rv bp, iv (0 : Int32)] [(.int (16384 : Int32)), (.int (0 : Int32)), (.ref bp)] _
    exact kt)
  obtain ⟨T15, h15, c15, X15, e15, E15, A15, B15, ls15⟩ := newPE X12 hx hZ (hw _ (List.mem_of_getElem? (i := 7) rfl)) eq12 (g := (mkF m 38 #[iv (16386 : Int32), rv bp, iv (0 : Int32)] [(.int (16384 : Int32)), (.int (0 : Int32)), (.ref bp)])) rfl (hb hby d5_38) rfl (by decide) (cap := 16384) (by decide) (by decide) (by decide) (by decide) (ad := "[I") (by decide)
  obtain ⟨t0, g15⟩ : ∃ z, z = h2.size := ⟨_, rfl⟩
  rw [← g15] at A15 B15 ls15
  have ne_bp_t0 : bp ≠ t0 := Nat.ne_of_lt (Nat.lt_of_lt_of_le f5.lt (Nat.le_of_eq g15.symm))
  have g_t0 : n0 ≤ t0 := Nat.le_trans z3 (Nat.le_of_eq g15.symm)
  have sz_t0 : h0.size ≤ t0 := Nat.le_trans k4.1 (Nat.le_of_eq g15.symm)
  have f16 := f5.ext E15
  have z17 := Nat.le_trans z3 E15.1
  have k18 := k4.ext E15
  have f19 : own_Av Z h15 t0 .int 16384 (fun _ => (.int (0 : Int32))) := own_Av.new A15 (by decide) (by decide)
  have st20 : own_Go p e below (T15.setTop (mkF m 40 #[iv (16386 : Int32), rv bp, iv (0 : Int32)] [(.ref t0), (.int (0 : Int32)), (.ref bp)])) B0 := fun t kt => st14 t (ls15 t kt)
  obtain ⟨T21, h21, X21, e21, W21, B21, ls21⟩ := own_aastore X15 hx hZ e15 f16 B15 (j := (0 : Int32)) (i := 0) (by decide) (by decide) (by decide) (g := (mkF m 40 #[iv (16386 : Int32), rv bp, iv (0 : Int32)] [(.ref t0), (.int (0 : Int32)), (.ref bp)])) rfl rfl (hb hby d5_40)
  have N21 := Fr.snoc X21 N12 g_bp
  have f22 := f19.other W21 (Ne.symm ne_bp_t0)
  have f23 := B15.wr W21
  have z24 := Nat.le_trans z17 (Keep.of_wr W21).1
  have k25 := k18.wr W21 (Or.inr sz_bp)
  have f26 := B21
  have st27 : own_Go p e below (T21.setTop (mkF m 41 #[iv (16386 : Int32), rv bp, iv (0 : Int32)] [])) B0 := fun t kt => st20 t (ls21 t kt)
  have st28 : own_Go p e below (T21.setTop (mkF m 20 #[iv (16386 : Int32), rv bp, iv ((0 : Int32) + (1 : Int32))] [(.ref bp), (.int ((0 : Int32) + (1 : Int32)))])) B0 := fun t kt => st27 t (by
    show own_At p e below T21 m 41 #[iv (16386 : Int32), rv bp, iv (0 : Int32)] [] _
    refine XS.iinc X21.here hx rfl (hb hby d5_41) rfl (l' := #[iv (16386 : Int32), rv bp, iv ((0 : Int32) + (1 : Int32))]) rfl ?_
    show own_At p e below T21 m 44 #[iv (16386 : Int32), rv bp, iv ((0 : Int32) + (1 : Int32))] [] _
    refine XS.goto X21.here hx rfl (pc0 := 44) (pc' := 18) rfl (hb hby d5_44) (by decide) (by decide) ?_
    show own_At p e below T21 m 18 #[iv (16386 : Int32), rv bp, iv ((0 : Int32) + (1 : Int32))] [] _
    refine XS.iloadN X21.here hx rfl (hb hby d5_18) rfl ?_
    show own_At p e below T21 m 19 #[iv (16386 : Int32), rv bp, iv ((0 : Int32) + (1 : Int32))] [(.int ((0 : Int32) + (1 : Int32)))] _
    refine XS.aloadN X21.here hx rfl (hb hby d5_19) rfl rfl ?_
    show own_At p e below T21 m 20 #[iv (16386 : Int32), rv bp, iv ((0 : Int32) + (1 : Int32))] [(.ref bp), (.int ((0 : Int32) + (1 : Int32)))] _
    exact kt)
  have ls29 := own_alen X21 hx hZ e21 f26.av (g := (mkF m 20 #[iv (16386 : Int32), rv bp, iv ((0 : Int32) + (1 : Int32))] [(.ref bp), (.int ((0 : Int32) + (1 : Int32)))])) rfl rfl (hb hby d5_20)
  have st30 : own_Go p e below (T21.setTop (mkF m 21 #[iv (16386 : Int32), rv bp, iv ((0 : Int32) + (1 : Int32))] [(.int (2 : Int32)), (.int ((0 : Int32) + (1 : Int32)))])) B0 := fun t kt => st28 t (ls29 t kt)
  have hc31 : ((0 : Int32) + (1 : Int32)) < (2 : Int32) := by decide
  have st32 : own_Go p e below (T21.setTop (mkF m 35 #[iv (16386 : Int32), rv bp, iv ((0 : Int32) + (1 : Int32))] [(.int (2 : Int32)), (.int (16384 : Int32)), (.int ((0 : Int32) + (1 : Int32))), (.ref bp)])) B0 := fun t kt => st30 t (by
    show own_At p e below T21 m 21 #[iv (16386 : Int32), rv bp, iv ((0 : Int32) + (1 : Int32))] [(.int (2 : Int32)), (.int ((0 : Int32) + (1 : Int32)))] _
    refine XS.icmpNo X21.here hx rfl (hb hby d5_21) rfl (tlt hc31).2.1 ?_
    show own_At p e below T21 m 24 #[iv (16386 : Int32), rv bp, iv ((0 : Int32) + (1 : Int32))] [] _
    refine XS.aloadN X21.here hx rfl (hb hby d5_24) rfl rfl ?_
    show own_At p e below T21 m 25 #[iv (16386 : Int32), rv bp, iv ((0 : Int32) + (1 : Int32))] [(.ref bp)] _
    refine XS.iloadN X21.here hx rfl (hb hby d5_25) rfl ?_
    show own_At p e below T21 m 26 #[iv (16386 : Int32), rv bp, iv ((0 : Int32) + (1 : Int32))] [(.int ((0 : Int32) + (1 : Int32))), (.ref bp)] _
    refine XS.sipush X21.here hx rfl (hb hby d5_26) ?_
    show own_At p e below T21 m 29 #[iv (16386 : Int32), rv bp, iv ((0 : Int32) + (1 : Int32))] [(.int (16384 : Int32)), (.int ((0 : Int32) + (1 : Int32))), (.ref bp)] _
    refine XS.iloadN X21.here hx rfl (hb hby d5_29) rfl ?_
    show own_At p e below T21 m 30 #[iv (16386 : Int32), rv bp, iv ((0 : Int32) + (1 : Int32))] [(.int (16386 : Int32)), (.int (16384 : Int32)), (.int ((0 : Int32) + (1 : Int32))), (.ref bp)] _
    refine XS.iloadN X21.here hx rfl (hb hby d5_30) rfl ?_
    show own_At p e below T21 m 31 #[iv (16386 : Int32), rv bp, iv ((0 : Int32) + (1 : Int32))] [(.int ((0 : Int32) + (1 : Int32))), (.int (16386 : Int32)), (.int (16384 : Int32)), (.int ((0 : Int32) + (1 : Int32))), (.ref bp)] _
    refine XS.bipush X21.here hx rfl (hb hby d5_31) ?_
    show own_At p e below T21 m 33 #[iv (16386 : Int32), rv bp, iv ((0 : Int32) + (1 : Int32))] [(.int (14 : Int32)), (.int ((0 : Int32) + (1 : Int32))), (.int (16386 : Int32)), (.int (16384 : Int32)), (.int ((0 : Int32) + (1 : Int32))), (.ref bp)] _
    refine XS.ishl X21.here hx rfl (hb hby d5_33) rfl ?_
    show own_At p e below T21 m 34 #[iv (16386 : Int32), rv bp, iv ((0 : Int32) + (1 : Int32))] [(.int (((0 : Int32) + (1 : Int32)) <<< ((14 : Int32) &&& 31))), (.int (16386 : Int32)), (.int (16384 : Int32)), (.int ((0 : Int32) + (1 : Int32))), (.ref bp)] _
    refine XS.isub X21.here hx rfl (hb hby d5_34) rfl ?_
    show own_At p e below T21 m 35 #[iv (16386 : Int32), rv bp, iv ((0 : Int32) + (1 : Int32))] [(.int ((16386 : Int32) - (((0 : Int32) + (1 : Int32)) <<< ((14 : Int32) &&& 31)))), (.int (16384 : Int32)), (.int ((0 : Int32) + (1 : Int32))), (.ref bp)] _
    rw [show ((16386 : Int32) - (((0 : Int32) + (1 : Int32)) <<< ((14 : Int32) &&& 31))) = (2 : Int32) from (by decide +kernel)]
    show own_At p e below T21 m 35 #[iv (16386 : Int32), rv bp, iv ((0 : Int32) + (1 : Int32))] [(.int (2 : Int32)), (.int (16384 : Int32)), (.int ((0 : Int32) + (1 : Int32))), (.ref bp)] _
    exact kt)
  obtain ⟨_, _, ⟨T33, L33, k33, n33⟩, -, X33, ⟨Lc33, hQ33, l33, y33, z33⟩, ls33⟩ := Jvm.LawKit.callS X21 hx (y := (⟨"java/lang/Math", "min", "(II)I"⟩ : MethodName)) hown (mvT hZ (hw _ (List.mem_of_getElem? (i := 29) rfl))) (mvT hZ (hw _ (List.mem_of_getElem? (i := 1) rfl))) (mvT hZ (hw _ (List.mem_of_getElem? (i := 2) rfl))) (mvT hZ (hw _ (List.mem_of_getElem? (i := 3) rfl))) (by decide) (backOf (W := 2) (rm_min l Z a0 hw [] ((16384 : Int32)) ((2 : Int32)) h21 n0 z24) hZ (hw _ (List.mem_of_getElem? (i := 3) rfl)) (hw _ (List.mem_of_getElem? (i := 2) rfl)) (by decide) (by decide)) (g := (mkF m 35 #[iv (16386 : Int32), rv bp, iv ((0 : Int32) + (1 : Int32))] [(.int (2 : Int32)), (.int (16384 : Int32)), (.int ((0 : Int32) + (1 : Int32))), (.ref bp)])) rfl (by rw [hml]; rfl) (argsL := [(.int (16384 : Int32)), (.int (2 : Int32))]) (rest := [(.int ((0 : Int32) + (1 : Int32))), (.ref bp)]) (lenOf own_pd0 rfl) rfl (by show 2 * 0 + _ ≤ _; exact Nat.le_of_eq rfl) (hb hby d5_35) (fun _ _ => ⟨rfl, e21, (by decide : 2 + 0 ≤ _), (by decide : 16386 + 0 ≤ _)⟩)
  dsimp only [Pt.U, Pt.locs, Pt.cells, Pt.slots] at X33 l33 y33 z33 ls33 hQ33
  subst l33 y33 z33
  obtain ⟨rfl, Nq33, eq33⟩ := hQ33
  have N33 := Fr.app N21 Nq33
  have st34 : own_Go p e below (T33.setTop (mkF m 38 #[iv (16386 : Int32), rv bp, iv ((0 : Int32) + (1 : Int32))] [(.int (own_mn (16384 : Int32) (2 : Int32))), (.int ((0 : Int32) + (1 : Int32))), (.ref bp)])) B0 := fun t kt => st32 t (ls33 t kt)
  have st35 : own_Go p e below (T33.setTop (mkF m 38 #[iv (16386 : Int32), rv bp, iv ((0 : Int32) + (1 : Int32))] [(.int (2 : Int32)), (.int ((0 : Int32) + (1 : Int32))), (.ref bp)])) B0 := fun t kt => st34 t (by
    show own_At p e below T33 m 38 #[iv (16386 : Int32), rv bp, iv ((0 : Int32) + (1 : Int32))] [(.int (own_mn (16384 : Int32) (2 : Int32))), (.int ((0 : Int32) + (1 : Int32))), (.ref bp)] _
    rw [show (own_mn (16384 : Int32) (2 : Int32)) = (2 : Int32) from (by decide +kernel)]
    show own_At p e below T33 m 38 #[iv (16386 : Int32), rv bp, iv ((0 : Int32) + (1 : Int32))] [(.int (2 : Int32)), (.int ((0 : Int32) + (1 : Int32))), (.ref bp)] _
    exact kt)
  obtain ⟨T36, h36, c36, X36, e36, E36, A36, B36, ls36⟩ := newPE X33 hx hZ (hw _ (List.mem_of_getElem? (i := 7) rfl)) eq33 (g := (mkF m 38 #[iv (16386 : Int32), rv bp, iv ((0 : Int32) + (1 : Int32))] [(.int (2 : Int32)), (.int ((0 : Int32) + (1 : Int32))), (.ref bp)])) rfl (hb hby d5_38) rfl (by decide) (cap := 2) (by decide) (by decide) (by decide) (by decide) (ad := "[I") (by decide)
  obtain ⟨t1, g36⟩ : ∃ z, z = h21.size := ⟨_, rfl⟩
  rw [← g36] at A36 B36 ls36
  have ne_t0_t1 : t0 ≠ t1 := Nat.ne_of_lt (Nat.lt_of_lt_of_le f22.lt (Nat.le_of_eq g36.symm))
  have ne_bp_t1 : bp ≠ t1 := Nat.ne_of_lt (Nat.lt_of_lt_of_le f26.lt (Nat.le_of_eq g36.symm))
  have g_t1 : n0 ≤ t1 := Nat.le_trans z24 (Nat.le_of_eq g36.symm)
  have sz_t1 : h0.size ≤ t1 := Nat.le_trans k25.1 (Nat.le_of_eq g36.symm)
  have f37 := f22.ext E36
  have f38 := f23.ext E36
  have f39 := f26.ext E36
  have z40 := Nat.le_trans z24 E36.1
  have k41 := k25.ext E36
  have f42 : own_Av Z h36 t1 .int 2 (fun _ => (.int (0 : Int32))) := own_Av.new A36 (by decide) (by decide)
  have st43 : own_Go p e below (T36.setTop (mkF m 40 #[iv (16386 : Int32), rv bp, iv ((0 : Int32) + (1 : Int32))] [(.ref t1), (.int ((0 : Int32) + (1 : Int32))), (.ref bp)])) B0 := fun t kt => st35 t (ls36 t kt)
  obtain ⟨T44, h44, X44, e44, W44, B44, ls44⟩ := own_aastore X36 hx hZ e36 f39 B36 (j := ((0 : Int32) + (1 : Int32))) (i := 1) (by decide) (by decide) (by decide) (g := (mkF m 40 #[iv (16386 : Int32), rv bp, iv ((0 : Int32) + (1 : Int32))] [(.ref t1), (.int ((0 : Int32) + (1 : Int32))), (.ref bp)])) rfl rfl (hb hby d5_40)
  have N44 := Fr.snoc X44 N33 g_bp
  have f45 := f37.other W44 (Ne.symm ne_bp_t0)
  have f46 := f38.wr W44
  have f47 := f42.other W44 (Ne.symm ne_bp_t1)
  have f48 := B36.wr W44
  have z49 := Nat.le_trans z40 (Keep.of_wr W44).1
  have k50 := k41.wr W44 (Or.inr sz_bp)
  have f51 := B44
  have st52 : own_Go p e below (T44.setTop (mkF m 41 #[iv (16386 : Int32), rv bp, iv ((0 : Int32) + (1 : Int32))] [])) B0 := fun t kt => st43 t (ls44 t kt)
  have st53 : own_Go p e below (T44.setTop (mkF m 20 #[iv (16386 : Int32), rv bp, iv (((0 : Int32) + (1 : Int32)) + (1 : Int32))] [(.ref bp), (.int (((0 : Int32) + (1 : Int32)) + (1 : Int32)))])) B0 := fun t kt => st52 t (by
    show own_At p e below T44 m 41 #[iv (16386 : Int32), rv bp, iv ((0 : Int32) + (1 : Int32))] [] _
    refine XS.iinc X44.here hx rfl (hb hby d5_41) rfl (l' := #[iv (16386 : Int32), rv bp, iv (((0 : Int32) + (1 : Int32)) + (1 : Int32))]) rfl ?_
    show own_At p e below T44 m 44 #[iv (16386 : Int32), rv bp, iv (((0 : Int32) + (1 : Int32)) + (1 : Int32))] [] _
    refine XS.goto X44.here hx rfl (pc0 := 44) (pc' := 18) rfl (hb hby d5_44) (by decide) (by decide) ?_
    show own_At p e below T44 m 18 #[iv (16386 : Int32), rv bp, iv (((0 : Int32) + (1 : Int32)) + (1 : Int32))] [] _
    refine XS.iloadN X44.here hx rfl (hb hby d5_18) rfl ?_
    show own_At p e below T44 m 19 #[iv (16386 : Int32), rv bp, iv (((0 : Int32) + (1 : Int32)) + (1 : Int32))] [(.int (((0 : Int32) + (1 : Int32)) + (1 : Int32)))] _
    refine XS.aloadN X44.here hx rfl (hb hby d5_19) rfl rfl ?_
    show own_At p e below T44 m 20 #[iv (16386 : Int32), rv bp, iv (((0 : Int32) + (1 : Int32)) + (1 : Int32))] [(.ref bp), (.int (((0 : Int32) + (1 : Int32)) + (1 : Int32)))] _
    exact kt)
  have ls54 := own_alen X44 hx hZ e44 f51.av (g := (mkF m 20 #[iv (16386 : Int32), rv bp, iv (((0 : Int32) + (1 : Int32)) + (1 : Int32))] [(.ref bp), (.int (((0 : Int32) + (1 : Int32)) + (1 : Int32)))])) rfl rfl (hb hby d5_20)
  have st55 : own_Go p e below (T44.setTop (mkF m 21 #[iv (16386 : Int32), rv bp, iv (((0 : Int32) + (1 : Int32)) + (1 : Int32))] [(.int (2 : Int32)), (.int (((0 : Int32) + (1 : Int32)) + (1 : Int32)))])) B0 := fun t kt => st53 t (ls54 t kt)
  have hc56 : ¬ ((((0 : Int32) + (1 : Int32)) + (1 : Int32)) < (2 : Int32)) := by decide
  have st57 : own_Go p e below (T44.setTop (mkF m 48 #[iv (16386 : Int32), rv bp, iv (((0 : Int32) + (1 : Int32)) + (1 : Int32))] [(.ref bp)])) B0 := fun t kt => st55 t (by
    show own_At p e below T44 m 21 #[iv (16386 : Int32), rv bp, iv (((0 : Int32) + (1 : Int32)) + (1 : Int32))] [(.int (2 : Int32)), (.int (((0 : Int32) + (1 : Int32)) + (1 : Int32)))] _
    refine XS.icmpYes X44.here hx rfl (pc0 := 21) (pc' := 47) rfl (hb hby d5_21) rfl (flt hc56).2.1 (by decide) (by decide) ?_
    show own_At p e below T44 m 47 #[iv (16386 : Int32), rv bp, iv (((0 : Int32) + (1 : Int32)) + (1 : Int32))] [] _
    refine XS.aloadN X44.here hx rfl (hb hby d5_47) rfl rfl ?_
    show own_At p e below T44 m 48 #[iv (16386 : Int32), rv bp, iv (((0 : Int32) + (1 : Int32)) + (1 : Int32))] [(.ref bp)] _
    exact kt)
  obtain ⟨fs, hr, hrun, hended, hW, hsame⟩ := X44.leave (v := (some (.ref bp))) (fun h => by rw [Bd.returns] at h; cases h)
  subst hB0
  refine ⟨_, _, st57 _ ?_, hrun, hended, _, _, rfl, ?_, ⟨_, rfl⟩, hW, hsame.mono (by decide) (by decide)⟩
  · exact retOut X44 hx Bd.returns rfl (Or.inr (Or.inr (Or.inr (Or.inr ⟨rfl, rfl, rfl⟩)))) (hb hby d5_48) hr
  · show Q_rm_pages16386 Z  h0 n0 _ T44.heap _
    rw [e44]
    exact ⟨bp, t0, t1, rfl, N44, k50, g_bp, sz_bp, g_t0, sz_t0, ne_bp_t0, g_t1, sz_t1, ne_bp_t1, ne_t0_t1, f51.av.congr (fun q hq => match q, hq with | 0, _ => rfl | 1, _ => rfl | _ + 2, z => absurd z (by omega)), f45, f47⟩
def Q_rm_init4 (Z : State) (ao : Addr) (uf : Int32) (ac : Addr) (ut : Int32) (fc : Nat → Value) (h0 : Heap) (n0 : Nat) (v : Option Value) (h : Heap) (L : List Loc) : Prop := v = none ∧ Fr n0 L ∧ n0 ≤ h.size ∧ own_VS Z h n0 ao uf (own_st 1 3 4) (fun _ => 0) (fun _ => 0)
set_option maxRecDepth 65536 in
set_option maxHeartbeats 40000000 in
theorem rm_init4 (l : Launch) (Z : State) (a0 : Array Value) (hw : ∀ d ∈ tables_1, d.before a0 Z = true) (ws : List Jvm.Cond) (ao : Addr) (uf : Int32) (ac : Addr) (ut : Int32) (fc : Nat → Value) (h0 : Heap) (n0 : Nat) (Z0 : n0 ≤ h0.size) (F_terms_ao : Fld Z h0 ao "com/example/ranked_text_search/rankedtextsearch/MemoryTermVectors" "terms" "[Ljava/lang/String;" .null) (F_from_ao : Fld Z h0 ao "com/example/ranked_text_search/rankedtextsearch/MemoryTermVectors" "from" "I" (.int (0 : Int32))) (F_starts_ao : Fld Z h0 ao "com/example/ranked_text_search/rankedtextsearch/MemoryTermVectors" "starts" "[I" .null) (F_termNumbers_ao : Fld Z h0 ao "com/example/ranked_text_search/rankedtextsearch/MemoryTermVectors" "termNumbers" "[[I" .null) (F_frequencies_ao : Fld Z h0 ao "com/example/ranked_text_search/rankedtextsearch/MemoryTermVectors" "frequencies" "[[I" .null) (F_next_ao : Fld Z h0 ao "com/example/ranked_text_search/rankedtextsearch/MemoryTermVectors" "next" "[I" .null) (E_ao : Exa Z h0 ao "com/example/ranked_text_search/rankedtextsearch/MemoryTermVectors") (g_ao : n0 ≤ ao) (Ac : own_Av Z h0 ac .int 3 fc) (hc0 : fc 0 = .int 1) (hc1 : fc 1 = .int 2) (hc2 : fc 2 = .int 1) (ht : ut - uf = 3) (ne_ao_ac : ao ≠ ac) :
    MetFree l (⟨"com/example/ranked_text_search/rankedtextsearch/MemoryTermVectors", "<init>", "([Ljava/lang/String;I[II)V"⟩ : MethodName) (head1 (Jvm.Cond.code (⟨"com/example/ranked_text_search/rankedtextsearch/MemoryTermVectors", "<init>", "([Ljava/lang/String;I[II)V"⟩ : MethodName) prog_50_method_1_code 6 none :: ws) ({ frames := 2, cells := 6, slots := 30, locals := 33 } : Room)) (fun a U => a = #[(.ref ao), .null, (.int uf), (.ref ac), (.int ut)] ∧ Z.Warmed39 U.vm ∧ U.heap = h0) (fun _ _ _ _ _ => True) (fun _ U o U' => ∃ v L, o = .returned v ∧ Q_rm_init4 Z ao uf ac ut fc h0 n0 v U'.heap L ∧ FrameEnd U o U' L ({ frames := 2, cells := 6, slots := 30, locals := 33 } : Room).cells ({ frames := 2, cells := 6, slots := 30, locals := 33 } : Room).slots) := by
  refine MetFree.of_bodySF (plainFor_of_name own_pn2) hisR ?_
  intro p e s m args below meth c s₁ Bd hml0 hP hK
  obtain ⟨rfl, hZ, hh⟩ := hP
  have hx := Bd.exec
  have hby := Bd.bytes
  have hml : c.maxLocals = 6 := hml0
  have hown : s.vm.findClass "com/example/ranked_text_search/rankedtextsearch/MemoryTermVectors" = some m.cls := findClass_of_methodNamed Bd.named
  have hnm := (name_of_methodNamed Bd.named Bd.method).1
  have X0 : Stand p l e ({ frames := 2, cells := 6, slots := 30, locals := 33 } : Room) s m #[(.ref ao), .null, (.int uf), (.ref ac), (.int ut)] below meth c s₁ [] 0 0 := Stand.of_body Bd
  have e0 : s₁.heap = h0 := by rw [← hh, Bd.state]; rfl
  have N0 := Fr.nil n0
  obtain ⟨B0, hB0⟩ : ∃ B, B = (s₁.setTop (entryFrame m #[(.ref ao), .null, (.int uf), (.ref ac), (.int ut)] 6)) := ⟨_, rfl⟩
  have st0 : own_Go p e below (s₁.setTop (mkF m 0 #[rv ao, .val .null, iv uf, rv ac, iv ut, .unset] [])) B0 := fun t k => hB0 ▸ castTop (own_ef3_RNIRI m ao uf ac ut) k
  have st1 : own_Go p e below (s₁.setTop (mkF m 1 #[rv ao, .val .null, iv uf, rv ac, iv ut, .unset] [(.ref ao)])) B0 := fun t kt => st0 t (by
    show own_At p e below s₁ m 0 #[rv ao, .val .null, iv uf, rv ac, iv ut, .unset] [] _
    refine XS.aloadN X0.here hx rfl (hb hby d3_0) rfl rfl ?_
    show own_At p e below s₁ m 1 #[rv ao, .val .null, iv uf, rv ac, iv ut, .unset] [(.ref ao)] _
    exact kt)
  obtain ⟨T2, X2, e2, ls2⟩ := initO X0 hx hZ hown (hw _ (List.mem_of_getElem? (i := 14) rfl)) (hw _ (List.mem_of_getElem? (i := 15) rfl)) (hw _ (List.mem_of_getElem? (i := 16) rfl)) e0 (g := (mkF m 1 #[rv ao, .val .null, iv uf, rv ac, iv ut, .unset] [(.ref ao)])) rfl (by rw [hml]; rfl) rfl (hb hby d3_1) (by decide) (W := 0) (by show 2 * 0 + _ ≤ _; exact Nat.le_of_eq rfl) (by decide)
  have st3 : own_Go p e below (T2.setTop (mkF m 4 #[rv ao, .val .null, iv uf, rv ac, iv ut, .unset] [])) B0 := fun t kt => st1 t (ls2 t kt)
  have st4 : own_Go p e below (T2.setTop (mkF m 6 #[rv ao, .val .null, iv uf, rv ac, iv ut, .unset] [.null, (.ref ao)])) B0 := fun t kt => st3 t (by
    show own_At p e below T2 m 4 #[rv ao, .val .null, iv uf, rv ac, iv ut, .unset] [] _
    refine XS.aloadN X2.here hx rfl (hb hby d3_4) rfl rfl ?_
    show own_At p e below T2 m 5 #[rv ao, .val .null, iv uf, rv ac, iv ut, .unset] [(.ref ao)] _
    refine XS.aloadN X2.here hx rfl (hb hby d3_5) rfl rfl ?_
    show own_At p e below T2 m 6 #[rv ao, .val .null, iv uf, rv ac, iv ut, .unset] [.null, (.ref ao)] _
    exact kt)
  obtain ⟨T5, h5, X5, e5, W5, ls5⟩ := putF X2 hx hZ hown (host := "") (Or.inl (hw _ (List.mem_of_getElem? (i := 17) rfl))) Via.refl e2 F_terms_ao E_ao (Or.inr ⟨(hw _ (List.mem_of_getElem? (i := 18) rfl)), rfl, hnm⟩) (hw _ (List.mem_of_getElem? (i := 9) rfl)) (ty := (.array (.object "java/lang/String"))) (by decide) rfl rfl (g := (mkF m 6 #[rv ao, .val .null, iv uf, rv ac, iv ut, .unset] [.null, (.ref ao)])) rfl rfl (hb hby d3_6)
  have N5 := Fr.snoc X5 N0 g_ao
  have f6 := F_terms_ao.same W5
  have f7 := F_from_ao.other W5 (Or.inr (slot_ne (Or.inr (hw _ (List.mem_of_getElem? (i := 20) rfl))) (Or.inr (hw _ (List.mem_of_getElem? (i := 18) rfl))) (by decide) (t := .int) (t' := (.array (.object "java/lang/String"))) (by decide) (by decide)))
  have f8 := F_starts_ao.other W5 (Or.inr (slot_ne (Or.inr (hw _ (List.mem_of_getElem? (i := 22) rfl))) (Or.inr (hw _ (List.mem_of_getElem? (i := 18) rfl))) (by decide) (t := (.array .int)) (t' := (.array (.object "java/lang/String"))) (by decide) (by decide)))
  have f9 := F_termNumbers_ao.other W5 (Or.inr (slot_ne (Or.inr (hw _ (List.mem_of_getElem? (i := 32) rfl))) (Or.inr (hw _ (List.mem_of_getElem? (i := 18) rfl))) (by decide) (t := (.array (.array .int))) (t' := (.array (.object "java/lang/String"))) (by decide) (by decide)))
  have f10 := F_frequencies_ao.other W5 (Or.inr (slot_ne (Or.inr (hw _ (List.mem_of_getElem? (i := 34) rfl))) (Or.inr (hw _ (List.mem_of_getElem? (i := 18) rfl))) (by decide) (t := (.array (.array .int))) (t' := (.array (.object "java/lang/String"))) (by decide) (by decide)))
  have f11 := F_next_ao.other W5 (Or.inr (slot_ne (Or.inr (hw _ (List.mem_of_getElem? (i := 45) rfl))) (Or.inr (hw _ (List.mem_of_getElem? (i := 18) rfl))) (by decide) (t := (.array .int)) (t' := (.array (.object "java/lang/String"))) (by decide) (by decide)))
  have f12 := E_ao.wr W5
  have f13 := Ac.other W5 (Ne.symm ne_ao_ac)
  have z14 := Nat.le_trans Z0 (Keep.of_wr W5).1
  have st15 : own_Go p e below (T5.setTop (mkF m 9 #[rv ao, .val .null, iv uf, rv ac, iv ut, .unset] [])) B0 := fun t kt => st4 t (ls5 t kt)
  have st16 : own_Go p e below (T5.setTop (mkF m 11 #[rv ao, .val .null, iv uf, rv ac, iv ut, .unset] [(.int uf), (.ref ao)])) B0 := fun t kt => st15 t (by
    show own_At p e below T5 m 9 #[rv ao, .val .null, iv uf, rv ac, iv ut, .unset] [] _
    refine XS.aloadN X5.here hx rfl (hb hby d3_9) rfl rfl ?_
    show own_At p e below T5 m 10 #[rv ao, .val .null, iv uf, rv ac, iv ut, .unset] [(.ref ao)] _
    refine XS.iloadN X5.here hx rfl (hb hby d3_10) rfl ?_
    show own_At p e below T5 m 11 #[rv ao, .val .null, iv uf, rv ac, iv ut, .unset] [(.int uf), (.ref ao)] _
    exact kt)
  obtain ⟨T17, h17, X17, e17, W17, ls17⟩ := putF X5 hx hZ hown (host := "") (Or.inl (hw _ (List.mem_of_getElem? (i := 19) rfl))) Via.refl e5 f7 f12 (Or.inr ⟨(hw _ (List.mem_of_getElem? (i := 20) rfl)), rfl, hnm⟩) (hw _ (List.mem_of_getElem? (i := 9) rfl)) (ty := .int) (by decide) rfl rfl (g := (mkF m 11 #[rv ao, .val .null, iv uf, rv ac, iv ut, .unset] [(.int uf), (.ref ao)])) rfl rfl (hb hby d3_11)
  have N17 := Fr.snoc X17 N5 g_ao
  have f18 := f6.other W17 (Or.inr (slot_ne (Or.inr (hw _ (List.mem_of_getElem? (i := 18) rfl))) (Or.inr (hw _ (List.mem_of_getElem? (i := 20) rfl))) (by decide) (t := (.array (.object "java/lang/String"))) (t' := .int) (by decide) (by decide)))
  have f19 := f7.same W17
  have f20 := f8.other W17 (Or.inr (slot_ne (Or.inr (hw _ (List.mem_of_getElem? (i := 22) rfl))) (Or.inr (hw _ (List.mem_of_getElem? (i := 20) rfl))) (by decide) (t := (.array .int)) (t' := .int) (by decide) (by decide)))
  have f21 := f9.other W17 (Or.inr (slot_ne (Or.inr (hw _ (List.mem_of_getElem? (i := 32) rfl))) (Or.inr (hw _ (List.mem_of_getElem? (i := 20) rfl))) (by decide) (t := (.array (.array .int))) (t' := .int) (by decide) (by decide)))
  have f22 := f10.other W17 (Or.inr (slot_ne (Or.inr (hw _ (List.mem_of_getElem? (i := 34) rfl))) (Or.inr (hw _ (List.mem_of_getElem? (i := 20) rfl))) (by decide) (t := (.array (.array .int))) (t' := .int) (by decide) (by decide)))
  have f23 := f11.other W17 (Or.inr (slot_ne (Or.inr (hw _ (List.mem_of_getElem? (i := 45) rfl))) (Or.inr (hw _ (List.mem_of_getElem? (i := 20) rfl))) (by decide) (t := (.array .int)) (t' := .int) (by decide) (by decide)))
  have f24 := f12.wr W17
  have f25 := f13.other W17 (Ne.symm ne_ao_ac)
  have z26 := Nat.le_trans z14 (Keep.of_wr W17).1
  have st27 : own_Go p e below (T17.setTop (mkF m 14 #[rv ao, .val .null, iv uf, rv ac, iv ut, .unset] [])) B0 := fun t kt => st16 t (ls17 t kt)
  have st28 : own_Go p e below (T17.setTop (mkF m 21 #[rv ao, .val .null, iv uf, rv ac, iv ut, .unset] [(.int (4 : Int32)), (.ref ao)])) B0 := fun t kt => st27 t (by
    show own_At p e below T17 m 14 #[rv ao, .val .null, iv uf, rv ac, iv ut, .unset] [] _
    refine XS.aloadN X17.here hx rfl (hb hby d3_14) rfl rfl ?_
    show own_At p e below T17 m 15 #[rv ao, .val .null, iv uf, rv ac, iv ut, .unset] [(.ref ao)] _
    refine XS.iload X17.here hx rfl (hb hby d3_15) rfl ?_
    show own_At p e below T17 m 17 #[rv ao, .val .null, iv uf, rv ac, iv ut, .unset] [(.int ut), (.ref ao)] _
    refine XS.iloadN X17.here hx rfl (hb hby d3_17) rfl ?_
    show own_At p e below T17 m 18 #[rv ao, .val .null, iv uf, rv ac, iv ut, .unset] [(.int uf), (.int ut), (.ref ao)] _
    refine XS.isub X17.here hx rfl (hb hby d3_18) rfl ?_
    show own_At p e below T17 m 19 #[rv ao, .val .null, iv uf, rv ac, iv ut, .unset] [(.int (ut - uf)), (.ref ao)] _
    refine XS.iconst X17.here hx rfl (hb hby d3_19) ?_
    show own_At p e below T17 m 20 #[rv ao, .val .null, iv uf, rv ac, iv ut, .unset] [(.int (1 : Int32)), (.int (ut - uf)), (.ref ao)] _
    refine XS.iadd X17.here hx rfl (hb hby d3_20) rfl ?_
    show own_At p e below T17 m 21 #[rv ao, .val .null, iv uf, rv ac, iv ut, .unset] [(.int ((ut - uf) + (1 : Int32))), (.ref ao)] _
    rw [show ((ut - uf) + (1 : Int32)) = (4 : Int32) from (by rw [ht]; rfl)]
    show own_At p e below T17 m 21 #[rv ao, .val .null, iv uf, rv ac, iv ut, .unset] [(.int (4 : Int32)), (.ref ao)] _
    exact kt)
  obtain ⟨T29, h29, c29, X29, e29, E29, A29, ls29⟩ := newP X17 hx hZ (hw _ (List.mem_of_getElem? (i := 7) rfl)) e17 (g := (mkF m 21 #[rv ao, .val .null, iv uf, rv ac, iv ut, .unset] [(.int (4 : Int32)), (.ref ao)])) rfl (hb hby d3_21) rfl (by decide) (cap := 4) (by decide) (by decide) (by decide) (by decide)
  obtain ⟨bs, g29⟩ : ∃ z, z = h17.size := ⟨_, rfl⟩
  rw [← g29] at A29 ls29
  have ne_ao_bs : ao ≠ bs := Nat.ne_of_lt (Nat.lt_of_lt_of_le f18.lt (Nat.le_of_eq g29.symm))
  have ne_ac_bs : ac ≠ bs := Nat.ne_of_lt (Nat.lt_of_lt_of_le f25.lt (Nat.le_of_eq g29.symm))
  have g_bs : n0 ≤ bs := Nat.le_trans z26 (Nat.le_of_eq g29.symm)
  have f30 := f18.ext E29
  have f31 := f19.ext E29
  have f32 := f20.ext E29
  have f33 := f21.ext E29
  have f34 := f22.ext E29
  have f35 := f23.ext E29
  have f36 := f24.ext E29
  have f37 := f25.ext E29
  have z38 := Nat.le_trans z26 E29.1
  have f39 : own_Av Z h29 bs .int 4 (fun _ => (.int (0 : Int32))) := own_Av.new A29 (by decide) (by decide)
  have st40 : own_Go p e below (T29.setTop (mkF m 23 #[rv ao, .val .null, iv uf, rv ac, iv ut, .unset] [(.ref bs), (.ref ao)])) B0 := fun t kt => st28 t (ls29 t kt)
  obtain ⟨T41, h41, X41, e41, W41, ls41⟩ := putF X29 hx hZ hown (host := "") (Or.inl (hw _ (List.mem_of_getElem? (i := 21) rfl))) Via.refl e29 f32 f36 (Or.inr ⟨(hw _ (List.mem_of_getElem? (i := 22) rfl)), rfl, hnm⟩) (hw _ (List.mem_of_getElem? (i := 9) rfl)) (ty := (.array .int)) (by decide) rfl rfl (g := (mkF m 23 #[rv ao, .val .null, iv uf, rv ac, iv ut, .unset] [(.ref bs), (.ref ao)])) rfl rfl (hb hby d3_23)
  have N41 := Fr.snoc X41 N17 g_ao
  have f42 := f30.other W41 (Or.inr (slot_ne (Or.inr (hw _ (List.mem_of_getElem? (i := 18) rfl))) (Or.inr (hw _ (List.mem_of_getElem? (i := 22) rfl))) (by decide) (t := (.array (.object "java/lang/String"))) (t' := (.array .int)) (by decide) (by decide)))
  have f43 := f31.other W41 (Or.inr (slot_ne (Or.inr (hw _ (List.mem_of_getElem? (i := 20) rfl))) (Or.inr (hw _ (List.mem_of_getElem? (i := 22) rfl))) (by decide) (t := .int) (t' := (.array .int)) (by decide) (by decide)))
  have f44 := f32.same W41
  have f45 := f33.other W41 (Or.inr (slot_ne (Or.inr (hw _ (List.mem_of_getElem? (i := 32) rfl))) (Or.inr (hw _ (List.mem_of_getElem? (i := 22) rfl))) (by decide) (t := (.array (.array .int))) (t' := (.array .int)) (by decide) (by decide)))
  have f46 := f34.other W41 (Or.inr (slot_ne (Or.inr (hw _ (List.mem_of_getElem? (i := 34) rfl))) (Or.inr (hw _ (List.mem_of_getElem? (i := 22) rfl))) (by decide) (t := (.array (.array .int))) (t' := (.array .int)) (by decide) (by decide)))
  have f47 := f35.other W41 (Or.inr (slot_ne (Or.inr (hw _ (List.mem_of_getElem? (i := 45) rfl))) (Or.inr (hw _ (List.mem_of_getElem? (i := 22) rfl))) (by decide) (t := (.array .int)) (t' := (.array .int)) (by decide) (by decide)))
  have f48 := f36.wr W41
  have f49 := f37.other W41 (Ne.symm ne_ao_ac)
  have f50 := f39.other W41 (Ne.symm ne_ao_bs)
  have z51 := Nat.le_trans z38 (Keep.of_wr W41).1
  have st52 : own_Go p e below (T41.setTop (mkF m 26 #[rv ao, .val .null, iv uf, rv ac, iv ut, .unset] [])) B0 := fun t kt => st40 t (ls41 t kt)
  have hc53 : (0 : Int32) < (ut - uf) := by rw [ht]; decide
  have st54 : own_Go p e below (T41.setTop (mkF m 39 #[rv ao, .val .null, iv uf, rv ac, iv ut, iv (0 : Int32)] [(.ref ao)])) B0 := fun t kt => st52 t (by
    show own_At p e below T41 m 26 #[rv ao, .val .null, iv uf, rv ac, iv ut, .unset] [] _
    refine XS.iconst X41.here hx rfl (hb hby d3_26) ?_
    show own_At p e below T41 m 27 #[rv ao, .val .null, iv uf, rv ac, iv ut, .unset] [(.int (0 : Int32))] _
    refine XS.istore X41.here hx rfl (hb hby d3_27) rfl (l' := #[rv ao, .val .null, iv uf, rv ac, iv ut, iv (0 : Int32)]) rfl ?_
    show own_At p e below T41 m 29 #[rv ao, .val .null, iv uf, rv ac, iv ut, iv (0 : Int32)] [] _
    refine XS.iload X41.here hx rfl (hb hby d3_29) rfl ?_
    show own_At p e below T41 m 31 #[rv ao, .val .null, iv uf, rv ac, iv ut, iv (0 : Int32)] [(.int (0 : Int32))] _
    refine XS.iload X41.here hx rfl (hb hby d3_31) rfl ?_
    show own_At p e below T41 m 33 #[rv ao, .val .null, iv uf, rv ac, iv ut, iv (0 : Int32)] [(.int ut), (.int (0 : Int32))] _
    refine XS.iloadN X41.here hx rfl (hb hby d3_33) rfl ?_
    show own_At p e below T41 m 34 #[rv ao, .val .null, iv uf, rv ac, iv ut, iv (0 : Int32)] [(.int uf), (.int ut), (.int (0 : Int32))] _
    refine XS.isub X41.here hx rfl (hb hby d3_34) rfl ?_
    show own_At p e below T41 m 35 #[rv ao, .val .null, iv uf, rv ac, iv ut, iv (0 : Int32)] [(.int (ut - uf)), (.int (0 : Int32))] _
    refine XS.icmpNo X41.here hx rfl (hb hby d3_35) rfl (tlt hc53).2.1 ?_
    show own_At p e below T41 m 38 #[rv ao, .val .null, iv uf, rv ac, iv ut, iv (0 : Int32)] [] _
    refine XS.aloadN X41.here hx rfl (hb hby d3_38) rfl rfl ?_
    show own_At p e below T41 m 39 #[rv ao, .val .null, iv uf, rv ac, iv ut, iv (0 : Int32)] [(.ref ao)] _
    exact kt)
  obtain ⟨T55, X55, e55, ls55⟩ := getF X41 hx hZ hown (host := "") (Or.inl (hw _ (List.mem_of_getElem? (i := 21) rfl))) Via.refl e41 f44 (g := (mkF m 39 #[rv ao, .val .null, iv uf, rv ac, iv ut, iv (0 : Int32)] [(.ref ao)])) rfl rfl (hb hby d3_39)
  have st56 : own_Go p e below (T55.setTop (mkF m 42 #[rv ao, .val .null, iv uf, rv ac, iv ut, iv (0 : Int32)] [(.ref bs)])) B0 := fun t kt => st54 t (ls55 t kt)
  have st57 : own_Go p e below (T55.setTop (mkF m 47 #[rv ao, .val .null, iv uf, rv ac, iv ut, iv (0 : Int32)] [(.ref ao), (.int ((0 : Int32) + (1 : Int32))), (.ref bs)])) B0 := fun t kt => st56 t (by
    show own_At p e below T55 m 42 #[rv ao, .val .null, iv uf, rv ac, iv ut, iv (0 : Int32)] [(.ref bs)] _
    refine XS.iload X55.here hx rfl (hb hby d3_42) rfl ?_
    show own_At p e below T55 m 44 #[rv ao, .val .null, iv uf, rv ac, iv ut, iv (0 : Int32)] [(.int (0 : Int32)), (.ref bs)] _
    refine XS.iconst X55.here hx rfl (hb hby d3_44) ?_
    show own_At p e below T55 m 45 #[rv ao, .val .null, iv uf, rv ac, iv ut, iv (0 : Int32)] [(.int (1 : Int32)), (.int (0 : Int32)), (.ref bs)] _
    refine XS.iadd X55.here hx rfl (hb hby d3_45) rfl ?_
    show own_At p e below T55 m 46 #[rv ao, .val .null, iv uf, rv ac, iv ut, iv (0 : Int32)] [(.int ((0 : Int32) + (1 : Int32))), (.ref bs)] _
    refine XS.aloadN X55.here hx rfl (hb hby d3_46) rfl rfl ?_
    show own_At p e below T55 m 47 #[rv ao, .val .null, iv uf, rv ac, iv ut, iv (0 : Int32)] [(.ref ao), (.int ((0 : Int32) + (1 : Int32))), (.ref bs)] _
    exact kt)
  obtain ⟨T58, X58, e58, ls58⟩ := getF X55 hx hZ hown (host := "") (Or.inl (hw _ (List.mem_of_getElem? (i := 21) rfl))) Via.refl e55 f44 (g := (mkF m 47 #[rv ao, .val .null, iv uf, rv ac, iv ut, iv (0 : Int32)] [(.ref ao), (.int ((0 : Int32) + (1 : Int32))), (.ref bs)])) rfl rfl (hb hby d3_47)
  have st59 : own_Go p e below (T58.setTop (mkF m 50 #[rv ao, .val .null, iv uf, rv ac, iv ut, iv (0 : Int32)] [(.ref bs), (.int ((0 : Int32) + (1 : Int32))), (.ref bs)])) B0 := fun t kt => st57 t (ls58 t kt)
  have st60 : own_Go p e below (T58.setTop (mkF m 52 #[rv ao, .val .null, iv uf, rv ac, iv ut, iv (0 : Int32)] [(.int (0 : Int32)), (.ref bs), (.int ((0 : Int32) + (1 : Int32))), (.ref bs)])) B0 := fun t kt => st59 t (by
    show own_At p e below T58 m 50 #[rv ao, .val .null, iv uf, rv ac, iv ut, iv (0 : Int32)] [(.ref bs), (.int ((0 : Int32) + (1 : Int32))), (.ref bs)] _
    refine XS.iload X58.here hx rfl (hb hby d3_50) rfl ?_
    show own_At p e below T58 m 52 #[rv ao, .val .null, iv uf, rv ac, iv ut, iv (0 : Int32)] [(.int (0 : Int32)), (.ref bs), (.int ((0 : Int32) + (1 : Int32))), (.ref bs)] _
    exact kt)
  have ls61 := own_iaload X58 hx hZ e58 f50 (j := (0 : Int32)) (i := 0) (by decide) (by decide) (by decide) (v := (.int (0 : Int32))) (rfl) (g := (mkF m 52 #[rv ao, .val .null, iv uf, rv ac, iv ut, iv (0 : Int32)] [(.int (0 : Int32)), (.ref bs), (.int ((0 : Int32) + (1 : Int32))), (.ref bs)])) rfl rfl (hb hby d3_52)
  have st62 : own_Go p e below (T58.setTop (mkF m 53 #[rv ao, .val .null, iv uf, rv ac, iv ut, iv (0 : Int32)] [(.int (0 : Int32)), (.int ((0 : Int32) + (1 : Int32))), (.ref bs)])) B0 := fun t kt => st60 t (ls61 t kt)
  have st63 : own_Go p e below (T58.setTop (mkF m 56 #[rv ao, .val .null, iv uf, rv ac, iv ut, iv (0 : Int32)] [(.int (0 : Int32)), (.ref ac), (.int (0 : Int32)), (.int ((0 : Int32) + (1 : Int32))), (.ref bs)])) B0 := fun t kt => st62 t (by
    show own_At p e below T58 m 53 #[rv ao, .val .null, iv uf, rv ac, iv ut, iv (0 : Int32)] [(.int (0 : Int32)), (.int ((0 : Int32) + (1 : Int32))), (.ref bs)] _
    refine XS.aloadN X58.here hx rfl (hb hby d3_53) rfl rfl ?_
    show own_At p e below T58 m 54 #[rv ao, .val .null, iv uf, rv ac, iv ut, iv (0 : Int32)] [(.ref ac), (.int (0 : Int32)), (.int ((0 : Int32) + (1 : Int32))), (.ref bs)] _
    refine XS.iload X58.here hx rfl (hb hby d3_54) rfl ?_
    show own_At p e below T58 m 56 #[rv ao, .val .null, iv uf, rv ac, iv ut, iv (0 : Int32)] [(.int (0 : Int32)), (.ref ac), (.int (0 : Int32)), (.int ((0 : Int32) + (1 : Int32))), (.ref bs)] _
    exact kt)
  have ls64 := own_iaload X58 hx hZ e58 f49 (j := (0 : Int32)) (i := 0) (by decide) (by decide) (by decide) (v := (.int (1 : Int32))) (hc0) (g := (mkF m 56 #[rv ao, .val .null, iv uf, rv ac, iv ut, iv (0 : Int32)] [(.int (0 : Int32)), (.ref ac), (.int (0 : Int32)), (.int ((0 : Int32) + (1 : Int32))), (.ref bs)])) rfl rfl (hb hby d3_56)
  have st65 : own_Go p e below (T58.setTop (mkF m 57 #[rv ao, .val .null, iv uf, rv ac, iv ut, iv (0 : Int32)] [(.int (1 : Int32)), (.int (0 : Int32)), (.int ((0 : Int32) + (1 : Int32))), (.ref bs)])) B0 := fun t kt => st63 t (ls64 t kt)
  have st66 : own_Go p e below (T58.setTop (mkF m 58 #[rv ao, .val .null, iv uf, rv ac, iv ut, iv (0 : Int32)] [(.int (1 : Int32)), (.int ((0 : Int32) + (1 : Int32))), (.ref bs)])) B0 := fun t kt => st65 t (by
    show own_At p e below T58 m 57 #[rv ao, .val .null, iv uf, rv ac, iv ut, iv (0 : Int32)] [(.int (1 : Int32)), (.int (0 : Int32)), (.int ((0 : Int32) + (1 : Int32))), (.ref bs)] _
    refine XS.iadd X58.here hx rfl (hb hby d3_57) rfl ?_
    show own_At p e below T58 m 58 #[rv ao, .val .null, iv uf, rv ac, iv ut, iv (0 : Int32)] [(.int ((0 : Int32) + (1 : Int32))), (.int ((0 : Int32) + (1 : Int32))), (.ref bs)] _
    rw [show ((0 : Int32) + (1 : Int32)) = (1 : Int32) from (by decide +kernel)]
    show own_At p e below T58 m 58 #[rv ao, .val .null, iv uf, rv ac, iv ut, iv (0 : Int32)] [(.int (1 : Int32)), (.int ((0 : Int32) + (1 : Int32))), (.ref bs)] _
    exact kt)
  obtain ⟨T67, h67, X67, e67, W67, B67, ls67⟩ := own_iastore X58 hx hZ e58 f50 (j := ((0 : Int32) + (1 : Int32))) (i := 1) (by decide) (by decide) (by decide) (g := (mkF m 58 #[rv ao, .val .null, iv uf, rv ac, iv ut, iv (0 : Int32)] [(.int (1 : Int32)), (.int ((0 : Int32) + (1 : Int32))), (.ref bs)])) rfl rfl (hb hby d3_58)
  have N67 := Fr.snoc X67 N41 g_bs
  have f68 := f42.other W67 (Or.inl ne_ao_bs)
  have f69 := f43.other W67 (Or.inl ne_ao_bs)
  have f70 := f44.other W67 (Or.inl ne_ao_bs)
  have f71 := f45.other W67 (Or.inl ne_ao_bs)
  have f72 := f46.other W67 (Or.inl ne_ao_bs)
  have f73 := f47.other W67 (Or.inl ne_ao_bs)
  have f74 := f48.wr W67
  have f75 := f49.other W67 ne_ac_bs
  have z76 := Nat.le_trans z51 (Keep.of_wr W67).1
  have f77 := B67
  have st78 : own_Go p e below (T67.setTop (mkF m 59 #[rv ao, .val .null, iv uf, rv ac, iv ut, iv (0 : Int32)] [])) B0 := fun t kt => st66 t (ls67 t kt)
  have hc79 : ((0 : Int32) + (1 : Int32)) < (ut - uf) := by rw [ht]; decide
  have st80 : own_Go p e below (T67.setTop (mkF m 39 #[rv ao, .val .null, iv uf, rv ac, iv ut, iv ((0 : Int32) + (1 : Int32))] [(.ref ao)])) B0 := fun t kt => st78 t (by
    show own_At p e below T67 m 59 #[rv ao, .val .null, iv uf, rv ac, iv ut, iv (0 : Int32)] [] _
    refine XS.iinc X67.here hx rfl (hb hby d3_59) rfl (l' := #[rv ao, .val .null, iv uf, rv ac, iv ut, iv ((0 : Int32) + (1 : Int32))]) rfl ?_
    show own_At p e below T67 m 62 #[rv ao, .val .null, iv uf, rv ac, iv ut, iv ((0 : Int32) + (1 : Int32))] [] _
    refine XS.goto X67.here hx rfl (pc0 := 62) (pc' := 29) rfl (hb hby d3_62) (by decide) (by decide) ?_
    show own_At p e below T67 m 29 #[rv ao, .val .null, iv uf, rv ac, iv ut, iv ((0 : Int32) + (1 : Int32))] [] _
    refine XS.iload X67.here hx rfl (hb hby d3_29) rfl ?_
    show own_At p e below T67 m 31 #[rv ao, .val .null, iv uf, rv ac, iv ut, iv ((0 : Int32) + (1 : Int32))] [(.int ((0 : Int32) + (1 : Int32)))] _
    refine XS.iload X67.here hx rfl (hb hby d3_31) rfl ?_
    show own_At p e below T67 m 33 #[rv ao, .val .null, iv uf, rv ac, iv ut, iv ((0 : Int32) + (1 : Int32))] [(.int ut), (.int ((0 : Int32) + (1 : Int32)))] _
    refine XS.iloadN X67.here hx rfl (hb hby d3_33) rfl ?_
    show own_At p e below T67 m 34 #[rv ao, .val .null, iv uf, rv ac, iv ut, iv ((0 : Int32) + (1 : Int32))] [(.int uf), (.int ut), (.int ((0 : Int32) + (1 : Int32)))] _
    refine XS.isub X67.here hx rfl (hb hby d3_34) rfl ?_
    show own_At p e below T67 m 35 #[rv ao, .val .null, iv uf, rv ac, iv ut, iv ((0 : Int32) + (1 : Int32))] [(.int (ut - uf)), (.int ((0 : Int32) + (1 : Int32)))] _
    refine XS.icmpNo X67.here hx rfl (hb hby d3_35) rfl (tlt hc79).2.1 ?_
    show own_At p e below T67 m 38 #[rv ao, .val .null, iv uf, rv ac, iv ut, iv ((0 : Int32) + (1 : Int32))] [] _
    refine XS.aloadN X67.here hx rfl (hb hby d3_38) rfl rfl ?_
    show own_At p e below T67 m 39 #[rv ao, .val .null, iv uf, rv ac, iv ut, iv ((0 : Int32) + (1 : Int32))] [(.ref ao)] _
    exact kt)
  obtain ⟨T81, X81, e81, ls81⟩ := getF X67 hx hZ hown (host := "") (Or.inl (hw _ (List.mem_of_getElem? (i := 21) rfl))) Via.refl e67 f70 (g := (mkF m 39 #[rv ao, .val .null, iv uf, rv ac, iv ut, iv ((0 : Int32) + (1 : Int32))] [(.ref ao)])) rfl rfl (hb hby d3_39)
  have st82 : own_Go p e below (T81.setTop (mkF m 42 #[rv ao, .val .null, iv uf, rv ac, iv ut, iv ((0 : Int32) + (1 : Int32))] [(.ref bs)])) B0 := fun t kt => st80 t (ls81 t kt)
  have st83 : own_Go p e below (T81.setTop (mkF m 47 #[rv ao, .val .null, iv uf, rv ac, iv ut, iv ((0 : Int32) + (1 : Int32))] [(.ref ao), (.int (((0 : Int32) + (1 : Int32)) + (1 : Int32))), (.ref bs)])) B0 := fun t kt => st82 t (by
    show own_At p e below T81 m 42 #[rv ao, .val .null, iv uf, rv ac, iv ut, iv ((0 : Int32) + (1 : Int32))] [(.ref bs)] _
    refine XS.iload X81.here hx rfl (hb hby d3_42) rfl ?_
    show own_At p e below T81 m 44 #[rv ao, .val .null, iv uf, rv ac, iv ut, iv ((0 : Int32) + (1 : Int32))] [(.int ((0 : Int32) + (1 : Int32))), (.ref bs)] _
    refine XS.iconst X81.here hx rfl (hb hby d3_44) ?_
    show own_At p e below T81 m 45 #[rv ao, .val .null, iv uf, rv ac, iv ut, iv ((0 : Int32) + (1 : Int32))] [(.int (1 : Int32)), (.int ((0 : Int32) + (1 : Int32))), (.ref bs)] _
    refine XS.iadd X81.here hx rfl (hb hby d3_45) rfl ?_
    show own_At p e below T81 m 46 #[rv ao, .val .null, iv uf, rv ac, iv ut, iv ((0 : Int32) + (1 : Int32))] [(.int (((0 : Int32) + (1 : Int32)) + (1 : Int32))), (.ref bs)] _
    refine XS.aloadN X81.here hx rfl (hb hby d3_46) rfl rfl ?_
    show own_At p e below T81 m 47 #[rv ao, .val .null, iv uf, rv ac, iv ut, iv ((0 : Int32) + (1 : Int32))] [(.ref ao), (.int (((0 : Int32) + (1 : Int32)) + (1 : Int32))), (.ref bs)] _
    exact kt)
  obtain ⟨T84, X84, e84, ls84⟩ := getF X81 hx hZ hown (host := "") (Or.inl (hw _ (List.mem_of_getElem? (i := 21) rfl))) Via.refl e81 f70 (g := (mkF m 47 #[rv ao, .val .null, iv uf, rv ac, iv ut, iv ((0 : Int32) + (1 : Int32))] [(.ref ao), (.int (((0 : Int32) + (1 : Int32)) + (1 : Int32))), (.ref bs)])) rfl rfl (hb hby d3_47)
  have st85 : own_Go p e below (T84.setTop (mkF m 50 #[rv ao, .val .null, iv uf, rv ac, iv ut, iv ((0 : Int32) + (1 : Int32))] [(.ref bs), (.int (((0 : Int32) + (1 : Int32)) + (1 : Int32))), (.ref bs)])) B0 := fun t kt => st83 t (ls84 t kt)
  have st86 : own_Go p e below (T84.setTop (mkF m 52 #[rv ao, .val .null, iv uf, rv ac, iv ut, iv ((0 : Int32) + (1 : Int32))] [(.int ((0 : Int32) + (1 : Int32))), (.ref bs), (.int (((0 : Int32) + (1 : Int32)) + (1 : Int32))), (.ref bs)])) B0 := fun t kt => st85 t (by
    show own_At p e below T84 m 50 #[rv ao, .val .null, iv uf, rv ac, iv ut, iv ((0 : Int32) + (1 : Int32))] [(.ref bs), (.int (((0 : Int32) + (1 : Int32)) + (1 : Int32))), (.ref bs)] _
    refine XS.iload X84.here hx rfl (hb hby d3_50) rfl ?_
    show own_At p e below T84 m 52 #[rv ao, .val .null, iv uf, rv ac, iv ut, iv ((0 : Int32) + (1 : Int32))] [(.int ((0 : Int32) + (1 : Int32))), (.ref bs), (.int (((0 : Int32) + (1 : Int32)) + (1 : Int32))), (.ref bs)] _
    exact kt)
  have ls87 := own_iaload X84 hx hZ e84 f77 (j := ((0 : Int32) + (1 : Int32))) (i := 1) (by decide) (by decide) (by decide) (v := (.int (1 : Int32))) (rfl) (g := (mkF m 52 #[rv ao, .val .null, iv uf, rv ac, iv ut, iv ((0 : Int32) + (1 : Int32))] [(.int ((0 : Int32) + (1 : Int32))), (.ref bs), (.int (((0 : Int32) + (1 : Int32)) + (1 : Int32))), (.ref bs)])) rfl rfl (hb hby d3_52)
  have st88 : own_Go p e below (T84.setTop (mkF m 53 #[rv ao, .val .null, iv uf, rv ac, iv ut, iv ((0 : Int32) + (1 : Int32))] [(.int (1 : Int32)), (.int (((0 : Int32) + (1 : Int32)) + (1 : Int32))), (.ref bs)])) B0 := fun t kt => st86 t (ls87 t kt)
  have st89 : own_Go p e below (T84.setTop (mkF m 56 #[rv ao, .val .null, iv uf, rv ac, iv ut, iv ((0 : Int32) + (1 : Int32))] [(.int ((0 : Int32) + (1 : Int32))), (.ref ac), (.int (1 : Int32)), (.int (((0 : Int32) + (1 : Int32)) + (1 : Int32))), (.ref bs)])) B0 := fun t kt => st88 t (by
    show own_At p e below T84 m 53 #[rv ao, .val .null, iv uf, rv ac, iv ut, iv ((0 : Int32) + (1 : Int32))] [(.int (1 : Int32)), (.int (((0 : Int32) + (1 : Int32)) + (1 : Int32))), (.ref bs)] _
    refine XS.aloadN X84.here hx rfl (hb hby d3_53) rfl rfl ?_
    show own_At p e below T84 m 54 #[rv ao, .val .null, iv uf, rv ac, iv ut, iv ((0 : Int32) + (1 : Int32))] [(.ref ac), (.int (1 : Int32)), (.int (((0 : Int32) + (1 : Int32)) + (1 : Int32))), (.ref bs)] _
    refine XS.iload X84.here hx rfl (hb hby d3_54) rfl ?_
    show own_At p e below T84 m 56 #[rv ao, .val .null, iv uf, rv ac, iv ut, iv ((0 : Int32) + (1 : Int32))] [(.int ((0 : Int32) + (1 : Int32))), (.ref ac), (.int (1 : Int32)), (.int (((0 : Int32) + (1 : Int32)) + (1 : Int32))), (.ref bs)] _
    exact kt)
  have ls90 := own_iaload X84 hx hZ e84 f75 (j := ((0 : Int32) + (1 : Int32))) (i := 1) (by decide) (by decide) (by decide) (v := (.int (2 : Int32))) (hc1) (g := (mkF m 56 #[rv ao, .val .null, iv uf, rv ac, iv ut, iv ((0 : Int32) + (1 : Int32))] [(.int ((0 : Int32) + (1 : Int32))), (.ref ac), (.int (1 : Int32)), (.int (((0 : Int32) + (1 : Int32)) + (1 : Int32))), (.ref bs)])) rfl rfl (hb hby d3_56)
  have st91 : own_Go p e below (T84.setTop (mkF m 57 #[rv ao, .val .null, iv uf, rv ac, iv ut, iv ((0 : Int32) + (1 : Int32))] [(.int (2 : Int32)), (.int (1 : Int32)), (.int (((0 : Int32) + (1 : Int32)) + (1 : Int32))), (.ref bs)])) B0 := fun t kt => st89 t (ls90 t kt)
  have st92 : own_Go p e below (T84.setTop (mkF m 58 #[rv ao, .val .null, iv uf, rv ac, iv ut, iv ((0 : Int32) + (1 : Int32))] [(.int (3 : Int32)), (.int (((0 : Int32) + (1 : Int32)) + (1 : Int32))), (.ref bs)])) B0 := fun t kt => st91 t (by
    show own_At p e below T84 m 57 #[rv ao, .val .null, iv uf, rv ac, iv ut, iv ((0 : Int32) + (1 : Int32))] [(.int (2 : Int32)), (.int (1 : Int32)), (.int (((0 : Int32) + (1 : Int32)) + (1 : Int32))), (.ref bs)] _
    refine XS.iadd X84.here hx rfl (hb hby d3_57) rfl ?_
    show own_At p e below T84 m 58 #[rv ao, .val .null, iv uf, rv ac, iv ut, iv ((0 : Int32) + (1 : Int32))] [(.int ((1 : Int32) + (2 : Int32))), (.int (((0 : Int32) + (1 : Int32)) + (1 : Int32))), (.ref bs)] _
    rw [show ((1 : Int32) + (2 : Int32)) = (3 : Int32) from (by decide +kernel)]
    show own_At p e below T84 m 58 #[rv ao, .val .null, iv uf, rv ac, iv ut, iv ((0 : Int32) + (1 : Int32))] [(.int (3 : Int32)), (.int (((0 : Int32) + (1 : Int32)) + (1 : Int32))), (.ref bs)] _
    exact kt)
  obtain ⟨T93, h93, X93, e93, W93, B93, ls93⟩ := own_iastore X84 hx hZ e84 f77 (j := (((0 : Int32) + (1 : Int32)) + (1 : Int32))) (i := 2) (by decide) (by decide) (by decide) (g := (mkF m 58 #[rv ao, .val .null, iv uf, rv ac, iv ut, iv ((0 : Int32) + (1 : Int32))] [(.int (3 : Int32)), (.int (((0 : Int32) + (1 : Int32)) + (1 : Int32))), (.ref bs)])) rfl rfl (hb hby d3_58)
  have N93 := Fr.snoc X93 N67 g_bs
  have f94 := f68.other W93 (Or.inl ne_ao_bs)
  have f95 := f69.other W93 (Or.inl ne_ao_bs)
  have f96 := f70.other W93 (Or.inl ne_ao_bs)
  have f97 := f71.other W93 (Or.inl ne_ao_bs)
  have f98 := f72.other W93 (Or.inl ne_ao_bs)
  have f99 := f73.other W93 (Or.inl ne_ao_bs)
  have f100 := f74.wr W93
  have f101 := f75.other W93 ne_ac_bs
  have z102 := Nat.le_trans z76 (Keep.of_wr W93).1
  have f103 := B93
  have st104 : own_Go p e below (T93.setTop (mkF m 59 #[rv ao, .val .null, iv uf, rv ac, iv ut, iv ((0 : Int32) + (1 : Int32))] [])) B0 := fun t kt => st92 t (ls93 t kt)
  have hc105 : (((0 : Int32) + (1 : Int32)) + (1 : Int32)) < (ut - uf) := by rw [ht]; decide
  have st106 : own_Go p e below (T93.setTop (mkF m 39 #[rv ao, .val .null, iv uf, rv ac, iv ut, iv (((0 : Int32) + (1 : Int32)) + (1 : Int32))] [(.ref ao)])) B0 := fun t kt => st104 t (by
    show own_At p e below T93 m 59 #[rv ao, .val .null, iv uf, rv ac, iv ut, iv ((0 : Int32) + (1 : Int32))] [] _
    refine XS.iinc X93.here hx rfl (hb hby d3_59) rfl (l' := #[rv ao, .val .null, iv uf, rv ac, iv ut, iv (((0 : Int32) + (1 : Int32)) + (1 : Int32))]) rfl ?_
    show own_At p e below T93 m 62 #[rv ao, .val .null, iv uf, rv ac, iv ut, iv (((0 : Int32) + (1 : Int32)) + (1 : Int32))] [] _
    refine XS.goto X93.here hx rfl (pc0 := 62) (pc' := 29) rfl (hb hby d3_62) (by decide) (by decide) ?_
    show own_At p e below T93 m 29 #[rv ao, .val .null, iv uf, rv ac, iv ut, iv (((0 : Int32) + (1 : Int32)) + (1 : Int32))] [] _
    refine XS.iload X93.here hx rfl (hb hby d3_29) rfl ?_
    show own_At p e below T93 m 31 #[rv ao, .val .null, iv uf, rv ac, iv ut, iv (((0 : Int32) + (1 : Int32)) + (1 : Int32))] [(.int (((0 : Int32) + (1 : Int32)) + (1 : Int32)))] _
    refine XS.iload X93.here hx rfl (hb hby d3_31) rfl ?_
    show own_At p e below T93 m 33 #[rv ao, .val .null, iv uf, rv ac, iv ut, iv (((0 : Int32) + (1 : Int32)) + (1 : Int32))] [(.int ut), (.int (((0 : Int32) + (1 : Int32)) + (1 : Int32)))] _
    refine XS.iloadN X93.here hx rfl (hb hby d3_33) rfl ?_
    show own_At p e below T93 m 34 #[rv ao, .val .null, iv uf, rv ac, iv ut, iv (((0 : Int32) + (1 : Int32)) + (1 : Int32))] [(.int uf), (.int ut), (.int (((0 : Int32) + (1 : Int32)) + (1 : Int32)))] _
    refine XS.isub X93.here hx rfl (hb hby d3_34) rfl ?_
    show own_At p e below T93 m 35 #[rv ao, .val .null, iv uf, rv ac, iv ut, iv (((0 : Int32) + (1 : Int32)) + (1 : Int32))] [(.int (ut - uf)), (.int (((0 : Int32) + (1 : Int32)) + (1 : Int32)))] _
    refine XS.icmpNo X93.here hx rfl (hb hby d3_35) rfl (tlt hc105).2.1 ?_
    show own_At p e below T93 m 38 #[rv ao, .val .null, iv uf, rv ac, iv ut, iv (((0 : Int32) + (1 : Int32)) + (1 : Int32))] [] _
    refine XS.aloadN X93.here hx rfl (hb hby d3_38) rfl rfl ?_
    show own_At p e below T93 m 39 #[rv ao, .val .null, iv uf, rv ac, iv ut, iv (((0 : Int32) + (1 : Int32)) + (1 : Int32))] [(.ref ao)] _
    exact kt)
  obtain ⟨T107, X107, e107, ls107⟩ := getF X93 hx hZ hown (host := "") (Or.inl (hw _ (List.mem_of_getElem? (i := 21) rfl))) Via.refl e93 f96 (g := (mkF m 39 #[rv ao, .val .null, iv uf, rv ac, iv ut, iv (((0 : Int32) + (1 : Int32)) + (1 : Int32))] [(.ref ao)])) rfl rfl (hb hby d3_39)
  have st108 : own_Go p e below (T107.setTop (mkF m 42 #[rv ao, .val .null, iv uf, rv ac, iv ut, iv (((0 : Int32) + (1 : Int32)) + (1 : Int32))] [(.ref bs)])) B0 := fun t kt => st106 t (ls107 t kt)
  have st109 : own_Go p e below (T107.setTop (mkF m 47 #[rv ao, .val .null, iv uf, rv ac, iv ut, iv (((0 : Int32) + (1 : Int32)) + (1 : Int32))] [(.ref ao), (.int ((((0 : Int32) + (1 : Int32)) + (1 : Int32)) + (1 : Int32))), (.ref bs)])) B0 := fun t kt => st108 t (by
    show own_At p e below T107 m 42 #[rv ao, .val .null, iv uf, rv ac, iv ut, iv (((0 : Int32) + (1 : Int32)) + (1 : Int32))] [(.ref bs)] _
    refine XS.iload X107.here hx rfl (hb hby d3_42) rfl ?_
    show own_At p e below T107 m 44 #[rv ao, .val .null, iv uf, rv ac, iv ut, iv (((0 : Int32) + (1 : Int32)) + (1 : Int32))] [(.int (((0 : Int32) + (1 : Int32)) + (1 : Int32))), (.ref bs)] _
    refine XS.iconst X107.here hx rfl (hb hby d3_44) ?_
    show own_At p e below T107 m 45 #[rv ao, .val .null, iv uf, rv ac, iv ut, iv (((0 : Int32) + (1 : Int32)) + (1 : Int32))] [(.int (1 : Int32)), (.int (((0 : Int32) + (1 : Int32)) + (1 : Int32))), (.ref bs)] _
    refine XS.iadd X107.here hx rfl (hb hby d3_45) rfl ?_
    show own_At p e below T107 m 46 #[rv ao, .val .null, iv uf, rv ac, iv ut, iv (((0 : Int32) + (1 : Int32)) + (1 : Int32))] [(.int ((((0 : Int32) + (1 : Int32)) + (1 : Int32)) + (1 : Int32))), (.ref bs)] _
    refine XS.aloadN X107.here hx rfl (hb hby d3_46) rfl rfl ?_
    show own_At p e below T107 m 47 #[rv ao, .val .null, iv uf, rv ac, iv ut, iv (((0 : Int32) + (1 : Int32)) + (1 : Int32))] [(.ref ao), (.int ((((0 : Int32) + (1 : Int32)) + (1 : Int32)) + (1 : Int32))), (.ref bs)] _
    exact kt)
  obtain ⟨T110, X110, e110, ls110⟩ := getF X107 hx hZ hown (host := "") (Or.inl (hw _ (List.mem_of_getElem? (i := 21) rfl))) Via.refl e107 f96 (g := (mkF m 47 #[rv ao, .val .null, iv uf, rv ac, iv ut, iv (((0 : Int32) + (1 : Int32)) + (1 : Int32))] [(.ref ao), (.int ((((0 : Int32) + (1 : Int32)) + (1 : Int32)) + (1 : Int32))), (.ref bs)])) rfl rfl (hb hby d3_47)
  have st111 : own_Go p e below (T110.setTop (mkF m 50 #[rv ao, .val .null, iv uf, rv ac, iv ut, iv (((0 : Int32) + (1 : Int32)) + (1 : Int32))] [(.ref bs), (.int ((((0 : Int32) + (1 : Int32)) + (1 : Int32)) + (1 : Int32))), (.ref bs)])) B0 := fun t kt => st109 t (ls110 t kt)
  have st112 : own_Go p e below (T110.setTop (mkF m 52 #[rv ao, .val .null, iv uf, rv ac, iv ut, iv (((0 : Int32) + (1 : Int32)) + (1 : Int32))] [(.int (((0 : Int32) + (1 : Int32)) + (1 : Int32))), (.ref bs), (.int ((((0 : Int32) + (1 : Int32)) + (1 : Int32)) + (1 : Int32))), (.ref bs)])) B0 := fun t kt => st111 t (by
    show own_At p e below T110 m 50 #[rv ao, .val .null, iv uf, rv ac, iv ut, iv (((0 : Int32) + (1 : Int32)) + (1 : Int32))] [(.ref bs), (.int ((((0 : Int32) + (1 : Int32)) + (1 : Int32)) + (1 : Int32))), (.ref bs)] _
    refine XS.iload X110.here hx rfl (hb hby d3_50) rfl ?_
    show own_At p e below T110 m 52 #[rv ao, .val .null, iv uf, rv ac, iv ut, iv (((0 : Int32) + (1 : Int32)) + (1 : Int32))] [(.int (((0 : Int32) + (1 : Int32)) + (1 : Int32))), (.ref bs), (.int ((((0 : Int32) + (1 : Int32)) + (1 : Int32)) + (1 : Int32))), (.ref bs)] _
    exact kt)
  have ls113 := own_iaload X110 hx hZ e110 f103 (j := (((0 : Int32) + (1 : Int32)) + (1 : Int32))) (i := 2) (by decide) (by decide) (by decide) (v := (.int (3 : Int32))) (rfl) (g := (mkF m 52 #[rv ao, .val .null, iv uf, rv ac, iv ut, iv (((0 : Int32) + (1 : Int32)) + (1 : Int32))] [(.int (((0 : Int32) + (1 : Int32)) + (1 : Int32))), (.ref bs), (.int ((((0 : Int32) + (1 : Int32)) + (1 : Int32)) + (1 : Int32))), (.ref bs)])) rfl rfl (hb hby d3_52)
  have st114 : own_Go p e below (T110.setTop (mkF m 53 #[rv ao, .val .null, iv uf, rv ac, iv ut, iv (((0 : Int32) + (1 : Int32)) + (1 : Int32))] [(.int (3 : Int32)), (.int ((((0 : Int32) + (1 : Int32)) + (1 : Int32)) + (1 : Int32))), (.ref bs)])) B0 := fun t kt => st112 t (ls113 t kt)
  have st115 : own_Go p e below (T110.setTop (mkF m 56 #[rv ao, .val .null, iv uf, rv ac, iv ut, iv (((0 : Int32) + (1 : Int32)) + (1 : Int32))] [(.int (((0 : Int32) + (1 : Int32)) + (1 : Int32))), (.ref ac), (.int (3 : Int32)), (.int ((((0 : Int32) + (1 : Int32)) + (1 : Int32)) + (1 : Int32))), (.ref bs)])) B0 := fun t kt => st114 t (by
    show own_At p e below T110 m 53 #[rv ao, .val .null, iv uf, rv ac, iv ut, iv (((0 : Int32) + (1 : Int32)) + (1 : Int32))] [(.int (3 : Int32)), (.int ((((0 : Int32) + (1 : Int32)) + (1 : Int32)) + (1 : Int32))), (.ref bs)] _
    refine XS.aloadN X110.here hx rfl (hb hby d3_53) rfl rfl ?_
    show own_At p e below T110 m 54 #[rv ao, .val .null, iv uf, rv ac, iv ut, iv (((0 : Int32) + (1 : Int32)) + (1 : Int32))] [(.ref ac), (.int (3 : Int32)), (.int ((((0 : Int32) + (1 : Int32)) + (1 : Int32)) + (1 : Int32))), (.ref bs)] _
    refine XS.iload X110.here hx rfl (hb hby d3_54) rfl ?_
    show own_At p e below T110 m 56 #[rv ao, .val .null, iv uf, rv ac, iv ut, iv (((0 : Int32) + (1 : Int32)) + (1 : Int32))] [(.int (((0 : Int32) + (1 : Int32)) + (1 : Int32))), (.ref ac), (.int (3 : Int32)), (.int ((((0 : Int32) + (1 : Int32)) + (1 : Int32)) + (1 : Int32))), (.ref bs)] _
    exact kt)
  have ls116 := own_iaload X110 hx hZ e110 f101 (j := (((0 : Int32) + (1 : Int32)) + (1 : Int32))) (i := 2) (by decide) (by decide) (by decide) (v := (.int (1 : Int32))) (hc2) (g := (mkF m 56 #[rv ao, .val .null, iv uf, rv ac, iv ut, iv (((0 : Int32) + (1 : Int32)) + (1 : Int32))] [(.int (((0 : Int32) + (1 : Int32)) + (1 : Int32))), (.ref ac), (.int (3 : Int32)), (.int ((((0 : Int32) + (1 : Int32)) + (1 : Int32)) + (1 : Int32))), (.ref bs)])) rfl rfl (hb hby d3_56)
  have st117 : own_Go p e below (T110.setTop (mkF m 57 #[rv ao, .val .null, iv uf, rv ac, iv ut, iv (((0 : Int32) + (1 : Int32)) + (1 : Int32))] [(.int (1 : Int32)), (.int (3 : Int32)), (.int ((((0 : Int32) + (1 : Int32)) + (1 : Int32)) + (1 : Int32))), (.ref bs)])) B0 := fun t kt => st115 t (ls116 t kt)
  have st118 : own_Go p e below (T110.setTop (mkF m 58 #[rv ao, .val .null, iv uf, rv ac, iv ut, iv (((0 : Int32) + (1 : Int32)) + (1 : Int32))] [(.int (4 : Int32)), (.int ((((0 : Int32) + (1 : Int32)) + (1 : Int32)) + (1 : Int32))), (.ref bs)])) B0 := fun t kt => st117 t (by
    show own_At p e below T110 m 57 #[rv ao, .val .null, iv uf, rv ac, iv ut, iv (((0 : Int32) + (1 : Int32)) + (1 : Int32))] [(.int (1 : Int32)), (.int (3 : Int32)), (.int ((((0 : Int32) + (1 : Int32)) + (1 : Int32)) + (1 : Int32))), (.ref bs)] _
    refine XS.iadd X110.here hx rfl (hb hby d3_57) rfl ?_
    show own_At p e below T110 m 58 #[rv ao, .val .null, iv uf, rv ac, iv ut, iv (((0 : Int32) + (1 : Int32)) + (1 : Int32))] [(.int ((3 : Int32) + (1 : Int32))), (.int ((((0 : Int32) + (1 : Int32)) + (1 : Int32)) + (1 : Int32))), (.ref bs)] _
    rw [show ((3 : Int32) + (1 : Int32)) = (4 : Int32) from (by decide +kernel)]
    show own_At p e below T110 m 58 #[rv ao, .val .null, iv uf, rv ac, iv ut, iv (((0 : Int32) + (1 : Int32)) + (1 : Int32))] [(.int (4 : Int32)), (.int ((((0 : Int32) + (1 : Int32)) + (1 : Int32)) + (1 : Int32))), (.ref bs)] _
    exact kt)
  obtain ⟨T119, h119, X119, e119, W119, B119, ls119⟩ := own_iastore X110 hx hZ e110 f103 (j := ((((0 : Int32) + (1 : Int32)) + (1 : Int32)) + (1 : Int32))) (i := 3) (by decide) (by decide) (by decide) (g := (mkF m 58 #[rv ao, .val .null, iv uf, rv ac, iv ut, iv (((0 : Int32) + (1 : Int32)) + (1 : Int32))] [(.int (4 : Int32)), (.int ((((0 : Int32) + (1 : Int32)) + (1 : Int32)) + (1 : Int32))), (.ref bs)])) rfl rfl (hb hby d3_58)
  have N119 := Fr.snoc X119 N93 g_bs
  have f120 := f94.other W119 (Or.inl ne_ao_bs)
  have f121 := f95.other W119 (Or.inl ne_ao_bs)
  have f122 := f96.other W119 (Or.inl ne_ao_bs)
  have f123 := f97.other W119 (Or.inl ne_ao_bs)
  have f124 := f98.other W119 (Or.inl ne_ao_bs)
  have f125 := f99.other W119 (Or.inl ne_ao_bs)
  have f126 := f100.wr W119
  have f127 := f101.other W119 ne_ac_bs
  have z128 := Nat.le_trans z102 (Keep.of_wr W119).1
  have f129 := B119.congr (g := (fun q => .int (own_st 1 3 4 q))) (fun q hq => match q, hq with | 0, _ => rfl | 1, _ => rfl | 2, _ => rfl | 3, _ => rfl | _ + 4, z => absurd z (by omega))
  have st130 : own_Go p e below (T119.setTop (mkF m 59 #[rv ao, .val .null, iv uf, rv ac, iv ut, iv (((0 : Int32) + (1 : Int32)) + (1 : Int32))] [])) B0 := fun t kt => st118 t (ls119 t kt)
  have hc131 : ¬ (((((0 : Int32) + (1 : Int32)) + (1 : Int32)) + (1 : Int32)) < (ut - uf)) := by rw [ht]; decide
  have st132 : own_Go p e below (T119.setTop (mkF m 67 #[rv ao, .val .null, iv uf, rv ac, iv ut, iv ((((0 : Int32) + (1 : Int32)) + (1 : Int32)) + (1 : Int32))] [(.ref ao), (.ref ao)])) B0 := fun t kt => st130 t (by
    show own_At p e below T119 m 59 #[rv ao, .val .null, iv uf, rv ac, iv ut, iv (((0 : Int32) + (1 : Int32)) + (1 : Int32))] [] _
    refine XS.iinc X119.here hx rfl (hb hby d3_59) rfl (l' := #[rv ao, .val .null, iv uf, rv ac, iv ut, iv ((((0 : Int32) + (1 : Int32)) + (1 : Int32)) + (1 : Int32))]) rfl ?_
    show own_At p e below T119 m 62 #[rv ao, .val .null, iv uf, rv ac, iv ut, iv ((((0 : Int32) + (1 : Int32)) + (1 : Int32)) + (1 : Int32))] [] _
    refine XS.goto X119.here hx rfl (pc0 := 62) (pc' := 29) rfl (hb hby d3_62) (by decide) (by decide) ?_
    show own_At p e below T119 m 29 #[rv ao, .val .null, iv uf, rv ac, iv ut, iv ((((0 : Int32) + (1 : Int32)) + (1 : Int32)) + (1 : Int32))] [] _
    refine XS.iload X119.here hx rfl (hb hby d3_29) rfl ?_
    show own_At p e below T119 m 31 #[rv ao, .val .null, iv uf, rv ac, iv ut, iv ((((0 : Int32) + (1 : Int32)) + (1 : Int32)) + (1 : Int32))] [(.int ((((0 : Int32) + (1 : Int32)) + (1 : Int32)) + (1 : Int32)))] _
    refine XS.iload X119.here hx rfl (hb hby d3_31) rfl ?_
    show own_At p e below T119 m 33 #[rv ao, .val .null, iv uf, rv ac, iv ut, iv ((((0 : Int32) + (1 : Int32)) + (1 : Int32)) + (1 : Int32))] [(.int ut), (.int ((((0 : Int32) + (1 : Int32)) + (1 : Int32)) + (1 : Int32)))] _
    refine XS.iloadN X119.here hx rfl (hb hby d3_33) rfl ?_
    show own_At p e below T119 m 34 #[rv ao, .val .null, iv uf, rv ac, iv ut, iv ((((0 : Int32) + (1 : Int32)) + (1 : Int32)) + (1 : Int32))] [(.int uf), (.int ut), (.int ((((0 : Int32) + (1 : Int32)) + (1 : Int32)) + (1 : Int32)))] _
    refine XS.isub X119.here hx rfl (hb hby d3_34) rfl ?_
    show own_At p e below T119 m 35 #[rv ao, .val .null, iv uf, rv ac, iv ut, iv ((((0 : Int32) + (1 : Int32)) + (1 : Int32)) + (1 : Int32))] [(.int (ut - uf)), (.int ((((0 : Int32) + (1 : Int32)) + (1 : Int32)) + (1 : Int32)))] _
    refine XS.icmpYes X119.here hx rfl (pc0 := 35) (pc' := 65) rfl (hb hby d3_35) rfl (flt hc131).2.1 (by decide) (by decide) ?_
    show own_At p e below T119 m 65 #[rv ao, .val .null, iv uf, rv ac, iv ut, iv ((((0 : Int32) + (1 : Int32)) + (1 : Int32)) + (1 : Int32))] [] _
    refine XS.aloadN X119.here hx rfl (hb hby d3_65) rfl rfl ?_
    show own_At p e below T119 m 66 #[rv ao, .val .null, iv uf, rv ac, iv ut, iv ((((0 : Int32) + (1 : Int32)) + (1 : Int32)) + (1 : Int32))] [(.ref ao)] _
    refine XS.aloadN X119.here hx rfl (hb hby d3_66) rfl rfl ?_
    show own_At p e below T119 m 67 #[rv ao, .val .null, iv uf, rv ac, iv ut, iv ((((0 : Int32) + (1 : Int32)) + (1 : Int32)) + (1 : Int32))] [(.ref ao), (.ref ao)] _
    exact kt)
  obtain ⟨T133, X133, e133, ls133⟩ := getF X119 hx hZ hown (host := "") (Or.inl (hw _ (List.mem_of_getElem? (i := 21) rfl))) Via.refl e119 f122 (g := (mkF m 67 #[rv ao, .val .null, iv uf, rv ac, iv ut, iv ((((0 : Int32) + (1 : Int32)) + (1 : Int32)) + (1 : Int32))] [(.ref ao), (.ref ao)])) rfl rfl (hb hby d3_67)
  have st134 : own_Go p e below (T133.setTop (mkF m 70 #[rv ao, .val .null, iv uf, rv ac, iv ut, iv ((((0 : Int32) + (1 : Int32)) + (1 : Int32)) + (1 : Int32))] [(.ref bs), (.ref ao)])) B0 := fun t kt => st132 t (ls133 t kt)
  have st135 : own_Go p e below (T133.setTop (mkF m 74 #[rv ao, .val .null, iv uf, rv ac, iv ut, iv ((((0 : Int32) + (1 : Int32)) + (1 : Int32)) + (1 : Int32))] [(.int (ut - uf)), (.ref bs), (.ref ao)])) B0 := fun t kt => st134 t (by
    show own_At p e below T133 m 70 #[rv ao, .val .null, iv uf, rv ac, iv ut, iv ((((0 : Int32) + (1 : Int32)) + (1 : Int32)) + (1 : Int32))] [(.ref bs), (.ref ao)] _
    refine XS.iload X133.here hx rfl (hb hby d3_70) rfl ?_
    show own_At p e below T133 m 72 #[rv ao, .val .null, iv uf, rv ac, iv ut, iv ((((0 : Int32) + (1 : Int32)) + (1 : Int32)) + (1 : Int32))] [(.int ut), (.ref bs), (.ref ao)] _
    refine XS.iloadN X133.here hx rfl (hb hby d3_72) rfl ?_
    show own_At p e below T133 m 73 #[rv ao, .val .null, iv uf, rv ac, iv ut, iv ((((0 : Int32) + (1 : Int32)) + (1 : Int32)) + (1 : Int32))] [(.int uf), (.int ut), (.ref bs), (.ref ao)] _
    refine XS.isub X133.here hx rfl (hb hby d3_73) rfl ?_
    show own_At p e below T133 m 74 #[rv ao, .val .null, iv uf, rv ac, iv ut, iv ((((0 : Int32) + (1 : Int32)) + (1 : Int32)) + (1 : Int32))] [(.int (ut - uf)), (.ref bs), (.ref ao)] _
    exact kt)
  have ls136 := own_iaload X133 hx hZ e133 f129 (j := (ut - uf)) (i := 3) (by rw [ht]; decide) (by rw [ht]; decide) (by decide) (v := (.int (4 : Int32))) (rfl) (g := (mkF m 74 #[rv ao, .val .null, iv uf, rv ac, iv ut, iv ((((0 : Int32) + (1 : Int32)) + (1 : Int32)) + (1 : Int32))] [(.int (ut - uf)), (.ref bs), (.ref ao)])) rfl rfl (hb hby d3_74)
  have st137 : own_Go p e below (T133.setTop (mkF m 75 #[rv ao, .val .null, iv uf, rv ac, iv ut, iv ((((0 : Int32) + (1 : Int32)) + (1 : Int32)) + (1 : Int32))] [(.int (4 : Int32)), (.ref ao)])) B0 := fun t kt => st135 t (ls136 t kt)
  have lt138_ao := f120.lt
  have lt138_ac := f127.lt
  have lt138_bs := f129.lt
  obtain ⟨_, _, ⟨T138, L138, k138, n138⟩, -, X138, ⟨Lc138, hQ138, l138, y138, z138⟩, ls138⟩ := Jvm.LawKit.callS X133 hx (y := (⟨"com/example/ranked_text_search/rankedtextsearch/MemoryTermVectors", "pages", "(I)[[I"⟩ : MethodName)) hown (mvT hZ (hw _ (List.mem_of_getElem? (i := 23) rfl))) (mvT hZ (hw _ (List.mem_of_getElem? (i := 24) rfl))) (mvT hZ (hw _ (List.mem_of_getElem? (i := 10) rfl))) (mvT hZ (hw _ (List.mem_of_getElem? (i := 25) rfl))) (by decide) (backOf (W := 1) (rm_pages4 l Z a0 hw []  h119 n0 z128) hZ (hw _ (List.mem_of_getElem? (i := 25) rfl)) (hw _ (List.mem_of_getElem? (i := 10) rfl)) (by decide) (by decide)) (g := (mkF m 75 #[rv ao, .val .null, iv uf, rv ac, iv ut, iv ((((0 : Int32) + (1 : Int32)) + (1 : Int32)) + (1 : Int32))] [(.int (4 : Int32)), (.ref ao)])) rfl (by rw [hml]; rfl) (argsL := [(.int (4 : Int32))]) (rest := [(.ref ao)]) (lenOf own_pd1 rfl) rfl (by show 2 * 0 + _ ≤ _; exact Nat.le_of_eq rfl) (hb hby d3_75) (fun _ _ => ⟨rfl, e133, (by decide : 1 + 2 ≤ _), (by decide : 4 + 5 ≤ _)⟩)
  dsimp only [Pt.U, Pt.locs, Pt.cells, Pt.slots] at X138 l138 y138 z138 ls138 hQ138
  subst l138 y138 z138
  obtain ⟨bq138, t0q138, rfl, Nq138, Kq138, g_bq138, sq138, g_t0q138, st0q138, ne_bq138_t0q138, Aq138, At0q138⟩ := hQ138
  have N138 := Fr.app N119 Nq138
  have f139 := f120.keep Kq138 nin0
  have f140 := f121.keep Kq138 nin0
  have f141 := f122.keep Kq138 nin0
  have f142 := f123.keep Kq138 nin0
  have f143 := f124.keep Kq138 nin0
  have f144 := f125.keep Kq138 nin0
  have f145 := f126.keep Kq138
  have f146 := f127.keep Kq138 nin0
  have f147 := f129.keep Kq138 nin0
  have z148 := Nat.le_trans z128 Kq138.1
  have ne_ao_bq138 : ao ≠ bq138 := Nat.ne_of_lt (Nat.lt_of_lt_of_le lt138_ao sq138)
  have ne_ac_bq138 : ac ≠ bq138 := Nat.ne_of_lt (Nat.lt_of_lt_of_le lt138_ac sq138)
  have ne_bs_bq138 : bs ≠ bq138 := Nat.ne_of_lt (Nat.lt_of_lt_of_le lt138_bs sq138)
  have ne_ao_t0q138 : ao ≠ t0q138 := Nat.ne_of_lt (Nat.lt_of_lt_of_le lt138_ao st0q138)
  have ne_ac_t0q138 : ac ≠ t0q138 := Nat.ne_of_lt (Nat.lt_of_lt_of_le lt138_ac st0q138)
  have ne_bs_t0q138 : bs ≠ t0q138 := Nat.ne_of_lt (Nat.lt_of_lt_of_le lt138_bs st0q138)
  have st149 : own_Go p e below (T138.setTop (mkF m 78 #[rv ao, .val .null, iv uf, rv ac, iv ut, iv ((((0 : Int32) + (1 : Int32)) + (1 : Int32)) + (1 : Int32))] [(.ref bq138), (.ref ao)])) B0 := fun t kt => st137 t (ls138 t kt)
  obtain ⟨T150, h150, X150, e150, W150, ls150⟩ := putF X138 hx hZ hown (host := "") (Or.inl (hw _ (List.mem_of_getElem? (i := 31) rfl))) Via.refl rfl f142 f145 (Or.inr ⟨(hw _ (List.mem_of_getElem? (i := 32) rfl)), rfl, hnm⟩) (hw _ (List.mem_of_getElem? (i := 9) rfl)) (ty := (.array (.array .int))) (by decide) rfl rfl (g := (mkF m 78 #[rv ao, .val .null, iv uf, rv ac, iv ut, iv ((((0 : Int32) + (1 : Int32)) + (1 : Int32)) + (1 : Int32))] [(.ref bq138), (.ref ao)])) rfl rfl (hb hby d3_78)
  have N150 := Fr.snoc X150 N138 g_ao
  have f151 := f139.other W150 (Or.inr (slot_ne (Or.inr (hw _ (List.mem_of_getElem? (i := 18) rfl))) (Or.inr (hw _ (List.mem_of_getElem? (i := 32) rfl))) (by decide) (t := (.array (.object "java/lang/String"))) (t' := (.array (.array .int))) (by decide) (by decide)))
  have f152 := f140.other W150 (Or.inr (slot_ne (Or.inr (hw _ (List.mem_of_getElem? (i := 20) rfl))) (Or.inr (hw _ (List.mem_of_getElem? (i := 32) rfl))) (by decide) (t := .int) (t' := (.array (.array .int))) (by decide) (by decide)))
  have f153 := f141.other W150 (Or.inr (slot_ne (Or.inr (hw _ (List.mem_of_getElem? (i := 22) rfl))) (Or.inr (hw _ (List.mem_of_getElem? (i := 32) rfl))) (by decide) (t := (.array .int)) (t' := (.array (.array .int))) (by decide) (by decide)))
  have f154 := f142.same W150
  have f155 := f143.other W150 (Or.inr (slot_ne (Or.inr (hw _ (List.mem_of_getElem? (i := 34) rfl))) (Or.inr (hw _ (List.mem_of_getElem? (i := 32) rfl))) (by decide) (t := (.array (.array .int))) (t' := (.array (.array .int))) (by decide) (by decide)))
  have f156 := f144.other W150 (Or.inr (slot_ne (Or.inr (hw _ (List.mem_of_getElem? (i := 45) rfl))) (Or.inr (hw _ (List.mem_of_getElem? (i := 32) rfl))) (by decide) (t := (.array .int)) (t' := (.array (.array .int))) (by decide) (by decide)))
  have f157 := f145.wr W150
  have f158 := f146.other W150 (Ne.symm ne_ao_ac)
  have f159 := f147.other W150 (Ne.symm ne_ao_bs)
  have f160 := Aq138.other W150 (Ne.symm ne_ao_bq138)
  have f161 := At0q138.other W150 (Ne.symm ne_ao_t0q138)
  have z162 := Nat.le_trans z148 (Keep.of_wr W150).1
  have st163 : own_Go p e below (T150.setTop (mkF m 81 #[rv ao, .val .null, iv uf, rv ac, iv ut, iv ((((0 : Int32) + (1 : Int32)) + (1 : Int32)) + (1 : Int32))] [])) B0 := fun t kt => st149 t (ls150 t kt)
  have st164 : own_Go p e below (T150.setTop (mkF m 83 #[rv ao, .val .null, iv uf, rv ac, iv ut, iv ((((0 : Int32) + (1 : Int32)) + (1 : Int32)) + (1 : Int32))] [(.ref ao), (.ref ao)])) B0 := fun t kt => st163 t (by
    show own_At p e below T150 m 81 #[rv ao, .val .null, iv uf, rv ac, iv ut, iv ((((0 : Int32) + (1 : Int32)) + (1 : Int32)) + (1 : Int32))] [] _
    refine XS.aloadN X150.here hx rfl (hb hby d3_81) rfl rfl ?_
    show own_At p e below T150 m 82 #[rv ao, .val .null, iv uf, rv ac, iv ut, iv ((((0 : Int32) + (1 : Int32)) + (1 : Int32)) + (1 : Int32))] [(.ref ao)] _
    refine XS.aloadN X150.here hx rfl (hb hby d3_82) rfl rfl ?_
    show own_At p e below T150 m 83 #[rv ao, .val .null, iv uf, rv ac, iv ut, iv ((((0 : Int32) + (1 : Int32)) + (1 : Int32)) + (1 : Int32))] [(.ref ao), (.ref ao)] _
    exact kt)
  obtain ⟨T165, X165, e165, ls165⟩ := getF X150 hx hZ hown (host := "") (Or.inl (hw _ (List.mem_of_getElem? (i := 21) rfl))) Via.refl e150 f153 (g := (mkF m 83 #[rv ao, .val .null, iv uf, rv ac, iv ut, iv ((((0 : Int32) + (1 : Int32)) + (1 : Int32)) + (1 : Int32))] [(.ref ao), (.ref ao)])) rfl rfl (hb hby d3_83)
  have st166 : own_Go p e below (T165.setTop (mkF m 86 #[rv ao, .val .null, iv uf, rv ac, iv ut, iv ((((0 : Int32) + (1 : Int32)) + (1 : Int32)) + (1 : Int32))] [(.ref bs), (.ref ao)])) B0 := fun t kt => st164 t (ls165 t kt)
  have st167 : own_Go p e below (T165.setTop (mkF m 90 #[rv ao, .val .null, iv uf, rv ac, iv ut, iv ((((0 : Int32) + (1 : Int32)) + (1 : Int32)) + (1 : Int32))] [(.int (ut - uf)), (.ref bs), (.ref ao)])) B0 := fun t kt => st166 t (by
    show own_At p e below T165 m 86 #[rv ao, .val .null, iv uf, rv ac, iv ut, iv ((((0 : Int32) + (1 : Int32)) + (1 : Int32)) + (1 : Int32))] [(.ref bs), (.ref ao)] _
    refine XS.iload X165.here hx rfl (hb hby d3_86) rfl ?_
    show own_At p e below T165 m 88 #[rv ao, .val .null, iv uf, rv ac, iv ut, iv ((((0 : Int32) + (1 : Int32)) + (1 : Int32)) + (1 : Int32))] [(.int ut), (.ref bs), (.ref ao)] _
    refine XS.iloadN X165.here hx rfl (hb hby d3_88) rfl ?_
    show own_At p e below T165 m 89 #[rv ao, .val .null, iv uf, rv ac, iv ut, iv ((((0 : Int32) + (1 : Int32)) + (1 : Int32)) + (1 : Int32))] [(.int uf), (.int ut), (.ref bs), (.ref ao)] _
    refine XS.isub X165.here hx rfl (hb hby d3_89) rfl ?_
    show own_At p e below T165 m 90 #[rv ao, .val .null, iv uf, rv ac, iv ut, iv ((((0 : Int32) + (1 : Int32)) + (1 : Int32)) + (1 : Int32))] [(.int (ut - uf)), (.ref bs), (.ref ao)] _
    exact kt)
  have ls168 := own_iaload X165 hx hZ e165 f159 (j := (ut - uf)) (i := 3) (by rw [ht]; decide) (by rw [ht]; decide) (by decide) (v := (.int (4 : Int32))) (rfl) (g := (mkF m 90 #[rv ao, .val .null, iv uf, rv ac, iv ut, iv ((((0 : Int32) + (1 : Int32)) + (1 : Int32)) + (1 : Int32))] [(.int (ut - uf)), (.ref bs), (.ref ao)])) rfl rfl (hb hby d3_90)
  have st169 : own_Go p e below (T165.setTop (mkF m 91 #[rv ao, .val .null, iv uf, rv ac, iv ut, iv ((((0 : Int32) + (1 : Int32)) + (1 : Int32)) + (1 : Int32))] [(.int (4 : Int32)), (.ref ao)])) B0 := fun t kt => st167 t (ls168 t kt)
  have lt170_ao := f151.lt
  have lt170_ac := f158.lt
  have lt170_bs := f159.lt
  have lt170_bq138 := f160.lt
  have lt170_t0q138 := f161.lt
  obtain ⟨_, _, ⟨T170, L170, k170, n170⟩, -, X170, ⟨Lc170, hQ170, l170, y170, z170⟩, ls170⟩ := Jvm.LawKit.callS X165 hx (y := (⟨"com/example/ranked_text_search/rankedtextsearch/MemoryTermVectors", "pages", "(I)[[I"⟩ : MethodName)) hown (mvT hZ (hw _ (List.mem_of_getElem? (i := 23) rfl))) (mvT hZ (hw _ (List.mem_of_getElem? (i := 24) rfl))) (mvT hZ (hw _ (List.mem_of_getElem? (i := 10) rfl))) (mvT hZ (hw _ (List.mem_of_getElem? (i := 25) rfl))) (by decide) (backOf (W := 1) (rm_pages4 l Z a0 hw []  h150 n0 z162) hZ (hw _ (List.mem_of_getElem? (i := 25) rfl)) (hw _ (List.mem_of_getElem? (i := 10) rfl)) (by decide) (by decide)) (g := (mkF m 91 #[rv ao, .val .null, iv uf, rv ac, iv ut, iv ((((0 : Int32) + (1 : Int32)) + (1 : Int32)) + (1 : Int32))] [(.int (4 : Int32)), (.ref ao)])) rfl (by rw [hml]; rfl) (argsL := [(.int (4 : Int32))]) (rest := [(.ref ao)]) (lenOf own_pd1 rfl) rfl (by show 2 * 0 + _ ≤ _; exact Nat.le_of_eq rfl) (hb hby d3_91) (fun _ _ => ⟨rfl, e165, (by decide : 3 + 2 ≤ _), (by decide : 9 + 5 ≤ _)⟩)
  dsimp only [Pt.U, Pt.locs, Pt.cells, Pt.slots] at X170 l170 y170 z170 ls170 hQ170
  subst l170 y170 z170
  obtain ⟨bq170, t0q170, rfl, Nq170, Kq170, g_bq170, sq170, g_t0q170, st0q170, ne_bq170_t0q170, Aq170, At0q170⟩ := hQ170
  have N170 := Fr.app N150 Nq170
  have f171 := f151.keep Kq170 nin0
  have f172 := f152.keep Kq170 nin0
  have f173 := f153.keep Kq170 nin0
  have f174 := f154.keep Kq170 nin0
  have f175 := f155.keep Kq170 nin0
  have f176 := f156.keep Kq170 nin0
  have f177 := f157.keep Kq170
  have f178 := f158.keep Kq170 nin0
  have f179 := f159.keep Kq170 nin0
  have f180 := f160.keep Kq170 nin0
  have f181 := f161.keep Kq170 nin0
  have z182 := Nat.le_trans z162 Kq170.1
  have ne_ao_bq170 : ao ≠ bq170 := Nat.ne_of_lt (Nat.lt_of_lt_of_le lt170_ao sq170)
  have ne_ac_bq170 : ac ≠ bq170 := Nat.ne_of_lt (Nat.lt_of_lt_of_le lt170_ac sq170)
  have ne_bs_bq170 : bs ≠ bq170 := Nat.ne_of_lt (Nat.lt_of_lt_of_le lt170_bs sq170)
  have ne_bq138_bq170 : bq138 ≠ bq170 := Nat.ne_of_lt (Nat.lt_of_lt_of_le lt170_bq138 sq170)
  have ne_t0q138_bq170 : t0q138 ≠ bq170 := Nat.ne_of_lt (Nat.lt_of_lt_of_le lt170_t0q138 sq170)
  have ne_ao_t0q170 : ao ≠ t0q170 := Nat.ne_of_lt (Nat.lt_of_lt_of_le lt170_ao st0q170)
  have ne_ac_t0q170 : ac ≠ t0q170 := Nat.ne_of_lt (Nat.lt_of_lt_of_le lt170_ac st0q170)
  have ne_bs_t0q170 : bs ≠ t0q170 := Nat.ne_of_lt (Nat.lt_of_lt_of_le lt170_bs st0q170)
  have ne_bq138_t0q170 : bq138 ≠ t0q170 := Nat.ne_of_lt (Nat.lt_of_lt_of_le lt170_bq138 st0q170)
  have ne_t0q138_t0q170 : t0q138 ≠ t0q170 := Nat.ne_of_lt (Nat.lt_of_lt_of_le lt170_t0q138 st0q170)
  have st183 : own_Go p e below (T170.setTop (mkF m 94 #[rv ao, .val .null, iv uf, rv ac, iv ut, iv ((((0 : Int32) + (1 : Int32)) + (1 : Int32)) + (1 : Int32))] [(.ref bq170), (.ref ao)])) B0 := fun t kt => st169 t (ls170 t kt)
  obtain ⟨T184, h184, X184, e184, W184, ls184⟩ := putF X170 hx hZ hown (host := "") (Or.inl (hw _ (List.mem_of_getElem? (i := 33) rfl))) Via.refl rfl f175 f177 (Or.inr ⟨(hw _ (List.mem_of_getElem? (i := 34) rfl)), rfl, hnm⟩) (hw _ (List.mem_of_getElem? (i := 9) rfl)) (ty := (.array (.array .int))) (by decide) rfl rfl (g := (mkF m 94 #[rv ao, .val .null, iv uf, rv ac, iv ut, iv ((((0 : Int32) + (1 : Int32)) + (1 : Int32)) + (1 : Int32))] [(.ref bq170), (.ref ao)])) rfl rfl (hb hby d3_94)
  have N184 := Fr.snoc X184 N170 g_ao
  have f185 := f171.other W184 (Or.inr (slot_ne (Or.inr (hw _ (List.mem_of_getElem? (i := 18) rfl))) (Or.inr (hw _ (List.mem_of_getElem? (i := 34) rfl))) (by decide) (t := (.array (.object "java/lang/String"))) (t' := (.array (.array .int))) (by decide) (by decide)))
  have f186 := f172.other W184 (Or.inr (slot_ne (Or.inr (hw _ (List.mem_of_getElem? (i := 20) rfl))) (Or.inr (hw _ (List.mem_of_getElem? (i := 34) rfl))) (by decide) (t := .int) (t' := (.array (.array .int))) (by decide) (by decide)))
  have f187 := f173.other W184 (Or.inr (slot_ne (Or.inr (hw _ (List.mem_of_getElem? (i := 22) rfl))) (Or.inr (hw _ (List.mem_of_getElem? (i := 34) rfl))) (by decide) (t := (.array .int)) (t' := (.array (.array .int))) (by decide) (by decide)))
  have f188 := f174.other W184 (Or.inr (slot_ne (Or.inr (hw _ (List.mem_of_getElem? (i := 32) rfl))) (Or.inr (hw _ (List.mem_of_getElem? (i := 34) rfl))) (by decide) (t := (.array (.array .int))) (t' := (.array (.array .int))) (by decide) (by decide)))
  have f189 := f175.same W184
  have f190 := f176.other W184 (Or.inr (slot_ne (Or.inr (hw _ (List.mem_of_getElem? (i := 45) rfl))) (Or.inr (hw _ (List.mem_of_getElem? (i := 34) rfl))) (by decide) (t := (.array .int)) (t' := (.array (.array .int))) (by decide) (by decide)))
  have f191 := f177.wr W184
  have f192 := f178.other W184 (Ne.symm ne_ao_ac)
  have f193 := f179.other W184 (Ne.symm ne_ao_bs)
  have f194 := f180.other W184 (Ne.symm ne_ao_bq138)
  have f195 := f181.other W184 (Ne.symm ne_ao_t0q138)
  have f196 := Aq170.other W184 (Ne.symm ne_ao_bq170)
  have f197 := At0q170.other W184 (Ne.symm ne_ao_t0q170)
  have z198 := Nat.le_trans z182 (Keep.of_wr W184).1
  have st199 : own_Go p e below (T184.setTop (mkF m 97 #[rv ao, .val .null, iv uf, rv ac, iv ut, iv ((((0 : Int32) + (1 : Int32)) + (1 : Int32)) + (1 : Int32))] [])) B0 := fun t kt => st183 t (ls184 t kt)
  have st200 : own_Go p e below (T184.setTop (mkF m 99 #[rv ao, .val .null, iv uf, rv ac, iv ut, iv ((((0 : Int32) + (1 : Int32)) + (1 : Int32)) + (1 : Int32))] [(.ref ao), (.ref ao)])) B0 := fun t kt => st199 t (by
    show own_At p e below T184 m 97 #[rv ao, .val .null, iv uf, rv ac, iv ut, iv ((((0 : Int32) + (1 : Int32)) + (1 : Int32)) + (1 : Int32))] [] _
    refine XS.aloadN X184.here hx rfl (hb hby d3_97) rfl rfl ?_
    show own_At p e below T184 m 98 #[rv ao, .val .null, iv uf, rv ac, iv ut, iv ((((0 : Int32) + (1 : Int32)) + (1 : Int32)) + (1 : Int32))] [(.ref ao)] _
    refine XS.aloadN X184.here hx rfl (hb hby d3_98) rfl rfl ?_
    show own_At p e below T184 m 99 #[rv ao, .val .null, iv uf, rv ac, iv ut, iv ((((0 : Int32) + (1 : Int32)) + (1 : Int32)) + (1 : Int32))] [(.ref ao), (.ref ao)] _
    exact kt)
  obtain ⟨T201, X201, e201, ls201⟩ := getF X184 hx hZ hown (host := "") (Or.inl (hw _ (List.mem_of_getElem? (i := 21) rfl))) Via.refl e184 f187 (g := (mkF m 99 #[rv ao, .val .null, iv uf, rv ac, iv ut, iv ((((0 : Int32) + (1 : Int32)) + (1 : Int32)) + (1 : Int32))] [(.ref ao), (.ref ao)])) rfl rfl (hb hby d3_99)
  have st202 : own_Go p e below (T201.setTop (mkF m 102 #[rv ao, .val .null, iv uf, rv ac, iv ut, iv ((((0 : Int32) + (1 : Int32)) + (1 : Int32)) + (1 : Int32))] [(.ref bs), (.ref ao)])) B0 := fun t kt => st200 t (ls201 t kt)
  have st203 : own_Go p e below (T201.setTop (mkF m 106 #[rv ao, .val .null, iv uf, rv ac, iv ut, iv ((((0 : Int32) + (1 : Int32)) + (1 : Int32)) + (1 : Int32))] [(.int (3 : Int32)), (.ref bs), (.ref ao)])) B0 := fun t kt => st202 t (by
    show own_At p e below T201 m 102 #[rv ao, .val .null, iv uf, rv ac, iv ut, iv ((((0 : Int32) + (1 : Int32)) + (1 : Int32)) + (1 : Int32))] [(.ref bs), (.ref ao)] _
    refine XS.iload X201.here hx rfl (hb hby d3_102) rfl ?_
    show own_At p e below T201 m 104 #[rv ao, .val .null, iv uf, rv ac, iv ut, iv ((((0 : Int32) + (1 : Int32)) + (1 : Int32)) + (1 : Int32))] [(.int ut), (.ref bs), (.ref ao)] _
    refine XS.iloadN X201.here hx rfl (hb hby d3_104) rfl ?_
    show own_At p e below T201 m 105 #[rv ao, .val .null, iv uf, rv ac, iv ut, iv ((((0 : Int32) + (1 : Int32)) + (1 : Int32)) + (1 : Int32))] [(.int uf), (.int ut), (.ref bs), (.ref ao)] _
    refine XS.isub X201.here hx rfl (hb hby d3_105) rfl ?_
    show own_At p e below T201 m 106 #[rv ao, .val .null, iv uf, rv ac, iv ut, iv ((((0 : Int32) + (1 : Int32)) + (1 : Int32)) + (1 : Int32))] [(.int (ut - uf)), (.ref bs), (.ref ao)] _
    rw [show (ut - uf) = (3 : Int32) from (ht)]
    show own_At p e below T201 m 106 #[rv ao, .val .null, iv uf, rv ac, iv ut, iv ((((0 : Int32) + (1 : Int32)) + (1 : Int32)) + (1 : Int32))] [(.int (3 : Int32)), (.ref bs), (.ref ao)] _
    exact kt)
  have lt204_ao := f185.lt
  have lt204_ac := f192.lt
  have lt204_bs := f193.lt
  have lt204_bq138 := f194.lt
  have lt204_t0q138 := f195.lt
  have lt204_bq170 := f196.lt
  have lt204_t0q170 := f197.lt
  obtain ⟨_, _, ⟨T204, L204, k204, n204⟩, -, X204, ⟨Lc204, hQ204, l204, y204, z204⟩, ls204⟩ := Jvm.LawKit.callS X201 hx (y := (⟨"java/util/Arrays", "copyOf", "([II)[I"⟩ : MethodName)) hown (mvT hZ (hw _ (List.mem_of_getElem? (i := 35) rfl))) (mvT hZ (hw _ (List.mem_of_getElem? (i := 36) rfl))) (mvT hZ (hw _ (List.mem_of_getElem? (i := 37) rfl))) (mvT hZ (hw _ (List.mem_of_getElem? (i := 38) rfl))) (by decide) (backOf (W := 1) (rm_copyOf l Z a0 hw [] bs ((3 : Int32)) 4 ((own_st 1 3 4)) 3 h184 n0 z198 f193 (by decide) (by decide) (by decide) (by decide)) hZ (hw _ (List.mem_of_getElem? (i := 38) rfl)) (hw _ (List.mem_of_getElem? (i := 37) rfl)) (by decide) (by decide)) (g := (mkF m 106 #[rv ao, .val .null, iv uf, rv ac, iv ut, iv ((((0 : Int32) + (1 : Int32)) + (1 : Int32)) + (1 : Int32))] [(.int (3 : Int32)), (.ref bs), (.ref ao)])) rfl (by rw [hml]; rfl) (argsL := [(.ref bs), (.int (3 : Int32))]) (rest := [(.ref ao)]) (lenOf own_pd2 rfl) rfl (by show 2 * 0 + _ ≤ _; exact Nat.le_of_eq rfl) (hb hby d3_106) (fun _ _ => ⟨rfl, e201, (by decide : 5 + 1 ≤ _), (by decide : 14 + 16 ≤ _)⟩)
  dsimp only [Pt.U, Pt.locs, Pt.cells, Pt.slots] at X204 l204 y204 z204 ls204 hQ204
  subst l204 y204 z204
  obtain ⟨bq204, rfl, Nq204, Kq204, g_bq204, sq204, Aq204⟩ := hQ204
  have N204 := Fr.app N184 Nq204
  have f205 := f185.keep Kq204 nin0
  have f206 := f186.keep Kq204 nin0
  have f207 := f187.keep Kq204 nin0
  have f208 := f188.keep Kq204 nin0
  have f209 := f189.keep Kq204 nin0
  have f210 := f190.keep Kq204 nin0
  have f211 := f191.keep Kq204
  have f212 := f192.keep Kq204 nin0
  have f213 := f193.keep Kq204 nin0
  have f214 := f194.keep Kq204 nin0
  have f215 := f195.keep Kq204 nin0
  have f216 := f196.keep Kq204 nin0
  have f217 := f197.keep Kq204 nin0
  have z218 := Nat.le_trans z198 Kq204.1
  have ne_ao_bq204 : ao ≠ bq204 := Nat.ne_of_lt (Nat.lt_of_lt_of_le lt204_ao sq204)
  have ne_ac_bq204 : ac ≠ bq204 := Nat.ne_of_lt (Nat.lt_of_lt_of_le lt204_ac sq204)
  have ne_bs_bq204 : bs ≠ bq204 := Nat.ne_of_lt (Nat.lt_of_lt_of_le lt204_bs sq204)
  have ne_bq138_bq204 : bq138 ≠ bq204 := Nat.ne_of_lt (Nat.lt_of_lt_of_le lt204_bq138 sq204)
  have ne_t0q138_bq204 : t0q138 ≠ bq204 := Nat.ne_of_lt (Nat.lt_of_lt_of_le lt204_t0q138 sq204)
  have ne_bq170_bq204 : bq170 ≠ bq204 := Nat.ne_of_lt (Nat.lt_of_lt_of_le lt204_bq170 sq204)
  have ne_t0q170_bq204 : t0q170 ≠ bq204 := Nat.ne_of_lt (Nat.lt_of_lt_of_le lt204_t0q170 sq204)
  have st219 : own_Go p e below (T204.setTop (mkF m 109 #[rv ao, .val .null, iv uf, rv ac, iv ut, iv ((((0 : Int32) + (1 : Int32)) + (1 : Int32)) + (1 : Int32))] [(.ref bq204), (.ref ao)])) B0 := fun t kt => st203 t (ls204 t kt)
  obtain ⟨T220, h220, X220, e220, W220, ls220⟩ := putF X204 hx hZ hown (host := "") (Or.inl (hw _ (List.mem_of_getElem? (i := 44) rfl))) Via.refl rfl f210 f211 (Or.inr ⟨(hw _ (List.mem_of_getElem? (i := 45) rfl)), rfl, hnm⟩) (hw _ (List.mem_of_getElem? (i := 9) rfl)) (ty := (.array .int)) (by decide) rfl rfl (g := (mkF m 109 #[rv ao, .val .null, iv uf, rv ac, iv ut, iv ((((0 : Int32) + (1 : Int32)) + (1 : Int32)) + (1 : Int32))] [(.ref bq204), (.ref ao)])) rfl rfl (hb hby d3_109)
  have N220 := Fr.snoc X220 N204 g_ao
  have f221 := f205.other W220 (Or.inr (slot_ne (Or.inr (hw _ (List.mem_of_getElem? (i := 18) rfl))) (Or.inr (hw _ (List.mem_of_getElem? (i := 45) rfl))) (by decide) (t := (.array (.object "java/lang/String"))) (t' := (.array .int)) (by decide) (by decide)))
  have f222 := f206.other W220 (Or.inr (slot_ne (Or.inr (hw _ (List.mem_of_getElem? (i := 20) rfl))) (Or.inr (hw _ (List.mem_of_getElem? (i := 45) rfl))) (by decide) (t := .int) (t' := (.array .int)) (by decide) (by decide)))
  have f223 := f207.other W220 (Or.inr (slot_ne (Or.inr (hw _ (List.mem_of_getElem? (i := 22) rfl))) (Or.inr (hw _ (List.mem_of_getElem? (i := 45) rfl))) (by decide) (t := (.array .int)) (t' := (.array .int)) (by decide) (by decide)))
  have f224 := f208.other W220 (Or.inr (slot_ne (Or.inr (hw _ (List.mem_of_getElem? (i := 32) rfl))) (Or.inr (hw _ (List.mem_of_getElem? (i := 45) rfl))) (by decide) (t := (.array (.array .int))) (t' := (.array .int)) (by decide) (by decide)))
  have f225 := f209.other W220 (Or.inr (slot_ne (Or.inr (hw _ (List.mem_of_getElem? (i := 34) rfl))) (Or.inr (hw _ (List.mem_of_getElem? (i := 45) rfl))) (by decide) (t := (.array (.array .int))) (t' := (.array .int)) (by decide) (by decide)))
  have f226 := f210.same W220
  have f227 := f211.wr W220
  have f228 := f212.other W220 (Ne.symm ne_ao_ac)
  have f229 := f213.other W220 (Ne.symm ne_ao_bs)
  have f230 := f214.other W220 (Ne.symm ne_ao_bq138)
  have f231 := f215.other W220 (Ne.symm ne_ao_t0q138)
  have f232 := f216.other W220 (Ne.symm ne_ao_bq170)
  have f233 := f217.other W220 (Ne.symm ne_ao_t0q170)
  have f234 := Aq204.other W220 (Ne.symm ne_ao_bq204)
  have z235 := Nat.le_trans z218 (Keep.of_wr W220).1
  have st236 : own_Go p e below (T220.setTop (mkF m 112 #[rv ao, .val .null, iv uf, rv ac, iv ut, iv ((((0 : Int32) + (1 : Int32)) + (1 : Int32)) + (1 : Int32))] [])) B0 := fun t kt => st219 t (ls220 t kt)
  obtain ⟨fs, hr, hrun, hended, hW, hsame⟩ := X220.leave (v := none) (fun _ => rfl)
  subst hB0
  refine ⟨_, _, st236 _ ?_, hrun, hended, _, _, rfl, ?_, ⟨_, rfl⟩, hW, hsame.mono (by decide) (by decide)⟩
  · exact X220.returnOut hx Bd.returns (hb hby d3_112) hr
  · show Q_rm_init4 Z ao uf ac ut fc h0 n0 _ T220.heap _
    rw [e220]
    exact ⟨rfl, N220, z235, f227, f222, bs, bq204, bq138, bq170, t0q138, t0q170, by
      intro x hx
      simp only [List.mem_cons, List.not_mem_nil, or_false] at hx
      rcases hx with rfl | rfl | rfl | rfl | rfl | rfl | rfl
      · exact g_ao
      · exact g_bs
      · exact g_bq204
      · exact g_bq138
      · exact g_bq170
      · exact g_t0q138
      · exact g_t0q170, by simp [ne_ao_bs, ne_ao_bq204, ne_ao_bq138, ne_ao_bq170, ne_ao_t0q138, ne_ao_t0q170, ne_bs_bq204, ne_bs_bq138, ne_bs_bq170, ne_bs_t0q138, ne_bs_t0q170, (Ne.symm ne_bq138_bq204), (Ne.symm ne_bq170_bq204), (Ne.symm ne_t0q138_bq204), (Ne.symm ne_t0q170_bq204), ne_bq138_bq170, ne_bq138_t0q138, ne_bq138_t0q170, (Ne.symm ne_t0q138_bq170), ne_bq170_t0q170, ne_t0q138_t0q170], f223, f226, f224, f225, f229, f234, f230, f231, f232, f233⟩
def Q_rm_init16386 (Z : State) (ao : Addr) (uf : Int32) (ac : Addr) (ut : Int32) (fc : Nat → Value) (h0 : Heap) (n0 : Nat) (v : Option Value) (h : Heap) (L : List Loc) : Prop := v = none ∧ Fr n0 L ∧ n0 ≤ h.size ∧ own_VB Z h n0 ao uf (own_st 16383 16385 16386) (fun _ => 0) (fun _ => 0)
set_option maxRecDepth 65536 in
set_option maxHeartbeats 40000000 in
theorem rm_init16386 (l : Launch) (Z : State) (a0 : Array Value) (hw : ∀ d ∈ tables_1, d.before a0 Z = true) (ws : List Jvm.Cond) (ao : Addr) (uf : Int32) (ac : Addr) (ut : Int32) (fc : Nat → Value) (h0 : Heap) (n0 : Nat) (Z0 : n0 ≤ h0.size) (F_terms_ao : Fld Z h0 ao "com/example/ranked_text_search/rankedtextsearch/MemoryTermVectors" "terms" "[Ljava/lang/String;" .null) (F_from_ao : Fld Z h0 ao "com/example/ranked_text_search/rankedtextsearch/MemoryTermVectors" "from" "I" (.int (0 : Int32))) (F_starts_ao : Fld Z h0 ao "com/example/ranked_text_search/rankedtextsearch/MemoryTermVectors" "starts" "[I" .null) (F_termNumbers_ao : Fld Z h0 ao "com/example/ranked_text_search/rankedtextsearch/MemoryTermVectors" "termNumbers" "[[I" .null) (F_frequencies_ao : Fld Z h0 ao "com/example/ranked_text_search/rankedtextsearch/MemoryTermVectors" "frequencies" "[[I" .null) (F_next_ao : Fld Z h0 ao "com/example/ranked_text_search/rankedtextsearch/MemoryTermVectors" "next" "[I" .null) (E_ao : Exa Z h0 ao "com/example/ranked_text_search/rankedtextsearch/MemoryTermVectors") (g_ao : n0 ≤ ao) (Ac : own_Av Z h0 ac .int 3 fc) (hc0 : fc 0 = .int 16383) (hc1 : fc 1 = .int 2) (hc2 : fc 2 = .int 1) (ht : ut - uf = 3) (ne_ao_ac : ao ≠ ac) :
    MetFree l (⟨"com/example/ranked_text_search/rankedtextsearch/MemoryTermVectors", "<init>", "([Ljava/lang/String;I[II)V"⟩ : MethodName) (head1 (Jvm.Cond.code (⟨"com/example/ranked_text_search/rankedtextsearch/MemoryTermVectors", "<init>", "([Ljava/lang/String;I[II)V"⟩ : MethodName) prog_50_method_1_code 6 none :: ws) ({ frames := 2, cells := 8, slots := 32796, locals := 33 } : Room)) (fun a U => a = #[(.ref ao), .null, (.int uf), (.ref ac), (.int ut)] ∧ Z.Warmed39 U.vm ∧ U.heap = h0) (fun _ _ _ _ _ => True) (fun _ U o U' => ∃ v L, o = .returned v ∧ Q_rm_init16386 Z ao uf ac ut fc h0 n0 v U'.heap L ∧ FrameEnd U o U' L ({ frames := 2, cells := 8, slots := 32796, locals := 33 } : Room).cells ({ frames := 2, cells := 8, slots := 32796, locals := 33 } : Room).slots) := by
  refine MetFree.of_bodySF (plainFor_of_name own_pn2) hisR ?_
  intro p e s m args below meth c s₁ Bd hml0 hP hK
  obtain ⟨rfl, hZ, hh⟩ := hP
  have hx := Bd.exec
  have hby := Bd.bytes
  have hml : c.maxLocals = 6 := hml0
  have hown : s.vm.findClass "com/example/ranked_text_search/rankedtextsearch/MemoryTermVectors" = some m.cls := findClass_of_methodNamed Bd.named
  have hnm := (name_of_methodNamed Bd.named Bd.method).1
  have X0 : Stand p l e ({ frames := 2, cells := 8, slots := 32796, locals := 33 } : Room) s m #[(.ref ao), .null, (.int uf), (.ref ac), (.int ut)] below meth c s₁ [] 0 0 := Stand.of_body Bd
  have e0 : s₁.heap = h0 := by rw [← hh, Bd.state]; rfl
  have N0 := Fr.nil n0
  obtain ⟨B0, hB0⟩ : ∃ B, B = (s₁.setTop (entryFrame m #[(.ref ao), .null, (.int uf), (.ref ac), (.int ut)] 6)) := ⟨_, rfl⟩
  have st0 : own_Go p e below (s₁.setTop (mkF m 0 #[rv ao, .val .null, iv uf, rv ac, iv ut, .unset] [])) B0 := fun t k => hB0 ▸ castTop (own_ef3_RNIRI m ao uf ac ut) k
  have st1 : own_Go p e below (s₁.setTop (mkF m 1 #[rv ao, .val .null, iv uf, rv ac, iv ut, .unset] [(.ref ao)])) B0 := fun t kt => st0 t (by
    show own_At p e below s₁ m 0 #[rv ao, .val .null, iv uf, rv ac, iv ut, .unset] [] _
    refine XS.aloadN X0.here hx rfl (hb hby d3_0) rfl rfl ?_
    show own_At p e below s₁ m 1 #[rv ao, .val .null, iv uf, rv ac, iv ut, .unset] [(.ref ao)] _
    exact kt)
  obtain ⟨T2, X2, e2, ls2⟩ := initO X0 hx hZ hown (hw _ (List.mem_of_getElem? (i := 14) rfl)) (hw _ (List.mem_of_getElem? (i := 15) rfl)) (hw _ (List.mem_of_getElem? (i := 16) rfl)) e0 (g := (mkF m 1 #[rv ao, .val .null, iv uf, rv ac, iv ut, .unset] [(.ref ao)])) rfl (by rw [hml]; rfl) rfl (hb hby d3_1) (by decide) (W := 0) (by show 2 * 0 + _ ≤ _; exact Nat.le_of_eq rfl) (by decide)
  have st3 : own_Go p e below (T2.setTop (mkF m 4 #[rv ao, .val .null, iv uf, rv ac, iv ut, .unset] [])) B0 := fun t kt => st1 t (ls2 t kt)
  have st4 : own_Go p e below (T2.setTop (mkF m 6 #[rv ao, .val .null, iv uf, rv ac, iv ut, .unset] [.null, (.ref ao)])) B0 := fun t kt => st3 t (by
    show own_At p e below T2 m 4 #[rv ao, .val .null, iv uf, rv ac, iv ut, .unset] [] _
    refine XS.aloadN X2.here hx rfl (hb hby d3_4) rfl rfl ?_
    show own_At p e below T2 m 5 #[rv ao, .val .null, iv uf, rv ac, iv ut, .unset] [(.ref ao)] _
    refine XS.aloadN X2.here hx rfl (hb hby d3_5) rfl rfl ?_
    show own_At p e below T2 m 6 #[rv ao, .val .null, iv uf, rv ac, iv ut, .unset] [.null, (.ref ao)] _
    exact kt)
  obtain ⟨T5, h5, X5, e5, W5, ls5⟩ := putF X2 hx hZ hown (host := "") (Or.inl (hw _ (List.mem_of_getElem? (i := 17) rfl))) Via.refl e2 F_terms_ao E_ao (Or.inr ⟨(hw _ (List.mem_of_getElem? (i := 18) rfl)), rfl, hnm⟩) (hw _ (List.mem_of_getElem? (i := 9) rfl)) (ty := (.array (.object "java/lang/String"))) (by decide) rfl rfl (g := (mkF m 6 #[rv ao, .val .null, iv uf, rv ac, iv ut, .unset] [.null, (.ref ao)])) rfl rfl (hb hby d3_6)
  have N5 := Fr.snoc X5 N0 g_ao
  have f6 := F_terms_ao.same W5
  have f7 := F_from_ao.other W5 (Or.inr (slot_ne (Or.inr (hw _ (List.mem_of_getElem? (i := 20) rfl))) (Or.inr (hw _ (List.mem_of_getElem? (i := 18) rfl))) (by decide) (t := .int) (t' := (.array (.object "java/lang/String"))) (by decide) (by decide)))
  have f8 := F_starts_ao.other W5 (Or.inr (slot_ne (Or.inr (hw _ (List.mem_of_getElem? (i := 22) rfl))) (Or.inr (hw _ (List.mem_of_getElem? (i := 18) rfl))) (by decide) (t := (.array .int)) (t' := (.array (.object "java/lang/String"))) (by decide) (by decide)))
  have f9 := F_termNumbers_ao.other W5 (Or.inr (slot_ne (Or.inr (hw _ (List.mem_of_getElem? (i := 32) rfl))) (Or.inr (hw _ (List.mem_of_getElem? (i := 18) rfl))) (by decide) (t := (.array (.array .int))) (t' := (.array (.object "java/lang/String"))) (by decide) (by decide)))
  have f10 := F_frequencies_ao.other W5 (Or.inr (slot_ne (Or.inr (hw _ (List.mem_of_getElem? (i := 34) rfl))) (Or.inr (hw _ (List.mem_of_getElem? (i := 18) rfl))) (by decide) (t := (.array (.array .int))) (t' := (.array (.object "java/lang/String"))) (by decide) (by decide)))
  have f11 := F_next_ao.other W5 (Or.inr (slot_ne (Or.inr (hw _ (List.mem_of_getElem? (i := 45) rfl))) (Or.inr (hw _ (List.mem_of_getElem? (i := 18) rfl))) (by decide) (t := (.array .int)) (t' := (.array (.object "java/lang/String"))) (by decide) (by decide)))
  have f12 := E_ao.wr W5
  have f13 := Ac.other W5 (Ne.symm ne_ao_ac)
  have z14 := Nat.le_trans Z0 (Keep.of_wr W5).1
  have st15 : own_Go p e below (T5.setTop (mkF m 9 #[rv ao, .val .null, iv uf, rv ac, iv ut, .unset] [])) B0 := fun t kt => st4 t (ls5 t kt)
  have st16 : own_Go p e below (T5.setTop (mkF m 11 #[rv ao, .val .null, iv uf, rv ac, iv ut, .unset] [(.int uf), (.ref ao)])) B0 := fun t kt => st15 t (by
    show own_At p e below T5 m 9 #[rv ao, .val .null, iv uf, rv ac, iv ut, .unset] [] _
    refine XS.aloadN X5.here hx rfl (hb hby d3_9) rfl rfl ?_
    show own_At p e below T5 m 10 #[rv ao, .val .null, iv uf, rv ac, iv ut, .unset] [(.ref ao)] _
    refine XS.iloadN X5.here hx rfl (hb hby d3_10) rfl ?_
    show own_At p e below T5 m 11 #[rv ao, .val .null, iv uf, rv ac, iv ut, .unset] [(.int uf), (.ref ao)] _
    exact kt)
  obtain ⟨T17, h17, X17, e17, W17, ls17⟩ := putF X5 hx hZ hown (host := "") (Or.inl (hw _ (List.mem_of_getElem? (i := 19) rfl))) Via.refl e5 f7 f12 (Or.inr ⟨(hw _ (List.mem_of_getElem? (i := 20) rfl)), rfl, hnm⟩) (hw _ (List.mem_of_getElem? (i := 9) rfl)) (ty := .int) (by decide) rfl rfl (g := (mkF m 11 #[rv ao, .val .null, iv uf, rv ac, iv ut, .unset] [(.int uf), (.ref ao)])) rfl rfl (hb hby d3_11)
  have N17 := Fr.snoc X17 N5 g_ao
  have f18 := f6.other W17 (Or.inr (slot_ne (Or.inr (hw _ (List.mem_of_getElem? (i := 18) rfl))) (Or.inr (hw _ (List.mem_of_getElem? (i := 20) rfl))) (by decide) (t := (.array (.object "java/lang/String"))) (t' := .int) (by decide) (by decide)))
  have f19 := f7.same W17
  have f20 := f8.other W17 (Or.inr (slot_ne (Or.inr (hw _ (List.mem_of_getElem? (i := 22) rfl))) (Or.inr (hw _ (List.mem_of_getElem? (i := 20) rfl))) (by decide) (t := (.array .int)) (t' := .int) (by decide) (by decide)))
  have f21 := f9.other W17 (Or.inr (slot_ne (Or.inr (hw _ (List.mem_of_getElem? (i := 32) rfl))) (Or.inr (hw _ (List.mem_of_getElem? (i := 20) rfl))) (by decide) (t := (.array (.array .int))) (t' := .int) (by decide) (by decide)))
  have f22 := f10.other W17 (Or.inr (slot_ne (Or.inr (hw _ (List.mem_of_getElem? (i := 34) rfl))) (Or.inr (hw _ (List.mem_of_getElem? (i := 20) rfl))) (by decide) (t := (.array (.array .int))) (t' := .int) (by decide) (by decide)))
  have f23 := f11.other W17 (Or.inr (slot_ne (Or.inr (hw _ (List.mem_of_getElem? (i := 45) rfl))) (Or.inr (hw _ (List.mem_of_getElem? (i := 20) rfl))) (by decide) (t := (.array .int)) (t' := .int) (by decide) (by decide)))
  have f24 := f12.wr W17
  have f25 := f13.other W17 (Ne.symm ne_ao_ac)
  have z26 := Nat.le_trans z14 (Keep.of_wr W17).1
  have st27 : own_Go p e below (T17.setTop (mkF m 14 #[rv ao, .val .null, iv uf, rv ac, iv ut, .unset] [])) B0 := fun t kt => st16 t (ls17 t kt)
  have st28 : own_Go p e below (T17.setTop (mkF m 21 #[rv ao, .val .null, iv uf, rv ac, iv ut, .unset] [(.int (4 : Int32)), (.ref ao)])) B0 := fun t kt => st27 t (by
    show own_At p e below T17 m 14 #[rv ao, .val .null, iv uf, rv ac, iv ut, .unset] [] _
    refine XS.aloadN X17.here hx rfl (hb hby d3_14) rfl rfl ?_
    show own_At p e below T17 m 15 #[rv ao, .val .null, iv uf, rv ac, iv ut, .unset] [(.ref ao)] _
    refine XS.iload X17.here hx rfl (hb hby d3_15) rfl ?_
    show own_At p e below T17 m 17 #[rv ao, .val .null, iv uf, rv ac, iv ut, .unset] [(.int ut), (.ref ao)] _
    refine XS.iloadN X17.here hx rfl (hb hby d3_17) rfl ?_
    show own_At p e below T17 m 18 #[rv ao, .val .null, iv uf, rv ac, iv ut, .unset] [(.int uf), (.int ut), (.ref ao)] _
    refine XS.isub X17.here hx rfl (hb hby d3_18) rfl ?_
    show own_At p e below T17 m 19 #[rv ao, .val .null, iv uf, rv ac, iv ut, .unset] [(.int (ut - uf)), (.ref ao)] _
    refine XS.iconst X17.here hx rfl (hb hby d3_19) ?_
    show own_At p e below T17 m 20 #[rv ao, .val .null, iv uf, rv ac, iv ut, .unset] [(.int (1 : Int32)), (.int (ut - uf)), (.ref ao)] _
    refine XS.iadd X17.here hx rfl (hb hby d3_20) rfl ?_
    show own_At p e below T17 m 21 #[rv ao, .val .null, iv uf, rv ac, iv ut, .unset] [(.int ((ut - uf) + (1 : Int32))), (.ref ao)] _
    rw [show ((ut - uf) + (1 : Int32)) = (4 : Int32) from (by rw [ht]; rfl)]
    show own_At p e below T17 m 21 #[rv ao, .val .null, iv uf, rv ac, iv ut, .unset] [(.int (4 : Int32)), (.ref ao)] _
    exact kt)
  obtain ⟨T29, h29, c29, X29, e29, E29, A29, ls29⟩ := newP X17 hx hZ (hw _ (List.mem_of_getElem? (i := 7) rfl)) e17 (g := (mkF m 21 #[rv ao, .val .null, iv uf, rv ac, iv ut, .unset] [(.int (4 : Int32)), (.ref ao)])) rfl (hb hby d3_21) rfl (by decide) (cap := 4) (by decide) (by decide) (by decide) (by decide)
  obtain ⟨bs, g29⟩ : ∃ z, z = h17.size := ⟨_, rfl⟩
  rw [← g29] at A29 ls29
  have ne_ao_bs : ao ≠ bs := Nat.ne_of_lt (Nat.lt_of_lt_of_le f18.lt (Nat.le_of_eq g29.symm))
  have ne_ac_bs : ac ≠ bs := Nat.ne_of_lt (Nat.lt_of_lt_of_le f25.lt (Nat.le_of_eq g29.symm))
  have g_bs : n0 ≤ bs := Nat.le_trans z26 (Nat.le_of_eq g29.symm)
  have f30 := f18.ext E29
  have f31 := f19.ext E29
  have f32 := f20.ext E29
  have f33 := f21.ext E29
  have f34 := f22.ext E29
  have f35 := f23.ext E29
  have f36 := f24.ext E29
  have f37 := f25.ext E29
  have z38 := Nat.le_trans z26 E29.1
  have f39 : own_Av Z h29 bs .int 4 (fun _ => (.int (0 : Int32))) := own_Av.new A29 (by decide) (by decide)
  have st40 : own_Go p e below (T29.setTop (mkF m 23 #[rv ao, .val .null, iv uf, rv ac, iv ut, .unset] [(.ref bs), (.ref ao)])) B0 := fun t kt => st28 t (ls29 t kt)
  obtain ⟨T41, h41, X41, e41, W41, ls41⟩ := putF X29 hx hZ hown (host := "") (Or.inl (hw _ (List.mem_of_getElem? (i := 21) rfl))) Via.refl e29 f32 f36 (Or.inr ⟨(hw _ (List.mem_of_getElem? (i := 22) rfl)), rfl, hnm⟩) (hw _ (List.mem_of_getElem? (i := 9) rfl)) (ty := (.array .int)) (by decide) rfl rfl (g := (mkF m 23 #[rv ao, .val .null, iv uf, rv ac, iv ut, .unset] [(.ref bs), (.ref ao)])) rfl rfl (hb hby d3_23)
  have N41 := Fr.snoc X41 N17 g_ao
  have f42 := f30.other W41 (Or.inr (slot_ne (Or.inr (hw _ (List.mem_of_getElem? (i := 18) rfl))) (Or.inr (hw _ (List.mem_of_getElem? (i := 22) rfl))) (by decide) (t := (.array (.object "java/lang/String"))) (t' := (.array .int)) (by decide) (by decide)))
  have f43 := f31.other W41 (Or.inr (slot_ne (Or.inr (hw _ (List.mem_of_getElem? (i := 20) rfl))) (Or.inr (hw _ (List.mem_of_getElem? (i := 22) rfl))) (by decide) (t := .int) (t' := (.array .int)) (by decide) (by decide)))
  have f44 := f32.same W41
  have f45 := f33.other W41 (Or.inr (slot_ne (Or.inr (hw _ (List.mem_of_getElem? (i := 32) rfl))) (Or.inr (hw _ (List.mem_of_getElem? (i := 22) rfl))) (by decide) (t := (.array (.array .int))) (t' := (.array .int)) (by decide) (by decide)))
  have f46 := f34.other W41 (Or.inr (slot_ne (Or.inr (hw _ (List.mem_of_getElem? (i := 34) rfl))) (Or.inr (hw _ (List.mem_of_getElem? (i := 22) rfl))) (by decide) (t := (.array (.array .int))) (t' := (.array .int)) (by decide) (by decide)))
  have f47 := f35.other W41 (Or.inr (slot_ne (Or.inr (hw _ (List.mem_of_getElem? (i := 45) rfl))) (Or.inr (hw _ (List.mem_of_getElem? (i := 22) rfl))) (by decide) (t := (.array .int)) (t' := (.array .int)) (by decide) (by decide)))
  have f48 := f36.wr W41
  have f49 := f37.other W41 (Ne.symm ne_ao_ac)
  have f50 := f39.other W41 (Ne.symm ne_ao_bs)
  have z51 := Nat.le_trans z38 (Keep.of_wr W41).1
  have st52 : own_Go p e below (T41.setTop (mkF m 26 #[rv ao, .val .null, iv uf, rv ac, iv ut, .unset] [])) B0 := fun t kt => st40 t (ls41 t kt)
  have hc53 : (0 : Int32) < (ut - uf) := by rw [ht]; decide
  have st54 : own_Go p e below (T41.setTop (mkF m 39 #[rv ao, .val .null, iv uf, rv ac, iv ut, iv (0 : Int32)] [(.ref ao)])) B0 := fun t kt => st52 t (by
    show own_At p e below T41 m 26 #[rv ao, .val .null, iv uf, rv ac, iv ut, .unset] [] _
    refine XS.iconst X41.here hx rfl (hb hby d3_26) ?_
    show own_At p e below T41 m 27 #[rv ao, .val .null, iv uf, rv ac, iv ut, .unset] [(.int (0 : Int32))] _
    refine XS.istore X41.here hx rfl (hb hby d3_27) rfl (l' := #[rv ao, .val .null, iv uf, rv ac, iv ut, iv (0 : Int32)]) rfl ?_
    show own_At p e below T41 m 29 #[rv ao, .val .null, iv uf, rv ac, iv ut, iv (0 : Int32)] [] _
    refine XS.iload X41.here hx rfl (hb hby d3_29) rfl ?_
    show own_At p e below T41 m 31 #[rv ao, .val .null, iv uf, rv ac, iv ut, iv (0 : Int32)] [(.int (0 : Int32))] _
    refine XS.iload X41.here hx rfl (hb hby d3_31) rfl ?_
    show own_At p e below T41 m 33 #[rv ao, .val .null, iv uf, rv ac, iv ut, iv (0 : Int32)] [(.int ut), (.int (0 : Int32))] _
    refine XS.iloadN X41.here hx rfl (hb hby d3_33) rfl ?_
    show own_At p e below T41 m 34 #[rv ao, .val .null, iv uf, rv ac, iv ut, iv (0 : Int32)] [(.int uf), (.int ut), (.int (0 : Int32))] _
    refine XS.isub X41.here hx rfl (hb hby d3_34) rfl ?_
    show own_At p e below T41 m 35 #[rv ao, .val .null, iv uf, rv ac, iv ut, iv (0 : Int32)] [(.int (ut - uf)), (.int (0 : Int32))] _
    refine XS.icmpNo X41.here hx rfl (hb hby d3_35) rfl (tlt hc53).2.1 ?_
    show own_At p e below T41 m 38 #[rv ao, .val .null, iv uf, rv ac, iv ut, iv (0 : Int32)] [] _
    refine XS.aloadN X41.here hx rfl (hb hby d3_38) rfl rfl ?_
    show own_At p e below T41 m 39 #[rv ao, .val .null, iv uf, rv ac, iv ut, iv (0 : Int32)] [(.ref ao)] _
    exact kt)
  obtain ⟨T55, X55, e55, ls55⟩ := getF X41 hx hZ hown (host := "") (Or.inl (hw _ (List.mem_of_getElem? (i := 21) rfl))) Via.refl e41 f44 (g := (mkF m 39 #[rv ao, .val .null, iv uf, rv ac, iv ut, iv (0 : Int32)] [(.ref ao)])) rfl rfl (hb hby d3_39)
  have st56 : own_Go p e below (T55.setTop (mkF m 42 #[rv ao, .val .null, iv uf, rv ac, iv ut, iv (0 : Int32)] [(.ref bs)])) B0 := fun t kt => st54 t (ls55 t kt)
  have st57 : own_Go p e below (T55.setTop (mkF m 47 #[rv ao, .val .null, iv uf, rv ac, iv ut, iv (0 : Int32)] [(.ref ao), (.int ((0 : Int32) + (1 : Int32))), (.ref bs)])) B0 := fun t kt => st56 t (by
    show own_At p e below T55 m 42 #[rv ao, .val .null, iv uf, rv ac, iv ut, iv (0 : Int32)] [(.ref bs)] _
    refine XS.iload X55.here hx rfl (hb hby d3_42) rfl ?_
    show own_At p e below T55 m 44 #[rv ao, .val .null, iv uf, rv ac, iv ut, iv (0 : Int32)] [(.int (0 : Int32)), (.ref bs)] _
    refine XS.iconst X55.here hx rfl (hb hby d3_44) ?_
    show own_At p e below T55 m 45 #[rv ao, .val .null, iv uf, rv ac, iv ut, iv (0 : Int32)] [(.int (1 : Int32)), (.int (0 : Int32)), (.ref bs)] _
    refine XS.iadd X55.here hx rfl (hb hby d3_45) rfl ?_
    show own_At p e below T55 m 46 #[rv ao, .val .null, iv uf, rv ac, iv ut, iv (0 : Int32)] [(.int ((0 : Int32) + (1 : Int32))), (.ref bs)] _
    refine XS.aloadN X55.here hx rfl (hb hby d3_46) rfl rfl ?_
    show own_At p e below T55 m 47 #[rv ao, .val .null, iv uf, rv ac, iv ut, iv (0 : Int32)] [(.ref ao), (.int ((0 : Int32) + (1 : Int32))), (.ref bs)] _
    exact kt)
  obtain ⟨T58, X58, e58, ls58⟩ := getF X55 hx hZ hown (host := "") (Or.inl (hw _ (List.mem_of_getElem? (i := 21) rfl))) Via.refl e55 f44 (g := (mkF m 47 #[rv ao, .val .null, iv uf, rv ac, iv ut, iv (0 : Int32)] [(.ref ao), (.int ((0 : Int32) + (1 : Int32))), (.ref bs)])) rfl rfl (hb hby d3_47)
  have st59 : own_Go p e below (T58.setTop (mkF m 50 #[rv ao, .val .null, iv uf, rv ac, iv ut, iv (0 : Int32)] [(.ref bs), (.int ((0 : Int32) + (1 : Int32))), (.ref bs)])) B0 := fun t kt => st57 t (ls58 t kt)
  have st60 : own_Go p e below (T58.setTop (mkF m 52 #[rv ao, .val .null, iv uf, rv ac, iv ut, iv (0 : Int32)] [(.int (0 : Int32)), (.ref bs), (.int ((0 : Int32) + (1 : Int32))), (.ref bs)])) B0 := fun t kt => st59 t (by
    show own_At p e below T58 m 50 #[rv ao, .val .null, iv uf, rv ac, iv ut, iv (0 : Int32)] [(.ref bs), (.int ((0 : Int32) + (1 : Int32))), (.ref bs)] _
    refine XS.iload X58.here hx rfl (hb hby d3_50) rfl ?_
    show own_At p e below T58 m 52 #[rv ao, .val .null, iv uf, rv ac, iv ut, iv (0 : Int32)] [(.int (0 : Int32)), (.ref bs), (.int ((0 : Int32) + (1 : Int32))), (.ref bs)] _
    exact kt)
  have ls61 := own_iaload X58 hx hZ e58 f50 (j := (0 : Int32)) (i := 0) (by decide) (by decide) (by decide) (v := (.int (0 : Int32))) (rfl) (g := (mkF m 52 #[rv ao, .val .null, iv uf, rv ac, iv ut, iv (0 : Int32)] [(.int (0 : Int32)), (.ref bs), (.int ((0 : Int32) + (1 : Int32))), (.ref bs)])) rfl rfl (hb hby d3_52)
  have st62 : own_Go p e below (T58.setTop (mkF m 53 #[rv ao, .val .null, iv uf, rv ac, iv ut, iv (0 : Int32)] [(.int (0 : Int32)), (.int ((0 : Int32) + (1 : Int32))), (.ref bs)])) B0 := fun t kt => st60 t (ls61 t kt)
  have st63 : own_Go p e below (T58.setTop (mkF m 56 #[rv ao, .val .null, iv uf, rv ac, iv ut, iv (0 : Int32)] [(.int (0 : Int32)), (.ref ac), (.int (0 : Int32)), (.int ((0 : Int32) + (1 : Int32))), (.ref bs)])) B0 := fun t kt => st62 t (by
    show own_At p e below T58 m 53 #[rv ao, .val .null, iv uf, rv ac, iv ut, iv (0 : Int32)] [(.int (0 : Int32)), (.int ((0 : Int32) + (1 : Int32))), (.ref bs)] _
    refine XS.aloadN X58.here hx rfl (hb hby d3_53) rfl rfl ?_
    show own_At p e below T58 m 54 #[rv ao, .val .null, iv uf, rv ac, iv ut, iv (0 : Int32)] [(.ref ac), (.int (0 : Int32)), (.int ((0 : Int32) + (1 : Int32))), (.ref bs)] _
    refine XS.iload X58.here hx rfl (hb hby d3_54) rfl ?_
    show own_At p e below T58 m 56 #[rv ao, .val .null, iv uf, rv ac, iv ut, iv (0 : Int32)] [(.int (0 : Int32)), (.ref ac), (.int (0 : Int32)), (.int ((0 : Int32) + (1 : Int32))), (.ref bs)] _
    exact kt)
  have ls64 := own_iaload X58 hx hZ e58 f49 (j := (0 : Int32)) (i := 0) (by decide) (by decide) (by decide) (v := (.int (16383 : Int32))) (hc0) (g := (mkF m 56 #[rv ao, .val .null, iv uf, rv ac, iv ut, iv (0 : Int32)] [(.int (0 : Int32)), (.ref ac), (.int (0 : Int32)), (.int ((0 : Int32) + (1 : Int32))), (.ref bs)])) rfl rfl (hb hby d3_56)
  have st65 : own_Go p e below (T58.setTop (mkF m 57 #[rv ao, .val .null, iv uf, rv ac, iv ut, iv (0 : Int32)] [(.int (16383 : Int32)), (.int (0 : Int32)), (.int ((0 : Int32) + (1 : Int32))), (.ref bs)])) B0 := fun t kt => st63 t (ls64 t kt)
  have st66 : own_Go p e below (T58.setTop (mkF m 58 #[rv ao, .val .null, iv uf, rv ac, iv ut, iv (0 : Int32)] [(.int (16383 : Int32)), (.int ((0 : Int32) + (1 : Int32))), (.ref bs)])) B0 := fun t kt => st65 t (by
    show own_At p e below T58 m 57 #[rv ao, .val .null, iv uf, rv ac, iv ut, iv (0 : Int32)] [(.int (16383 : Int32)), (.int (0 : Int32)), (.int ((0 : Int32) + (1 : Int32))), (.ref bs)] _
    refine XS.iadd X58.here hx rfl (hb hby d3_57) rfl ?_
    show own_At p e below T58 m 58 #[rv ao, .val .null, iv uf, rv ac, iv ut, iv (0 : Int32)] [(.int ((0 : Int32) + (16383 : Int32))), (.int ((0 : Int32) + (1 : Int32))), (.ref bs)] _
    rw [show ((0 : Int32) + (16383 : Int32)) = (16383 : Int32) from (by decide +kernel)]
    show own_At p e below T58 m 58 #[rv ao, .val .null, iv uf, rv ac, iv ut, iv (0 : Int32)] [(.int (16383 : Int32)), (.int ((0 : Int32) + (1 : Int32))), (.ref bs)] _
    exact kt)
  obtain ⟨T67, h67, X67, e67, W67, B67, ls67⟩ := own_iastore X58 hx hZ e58 f50 (j := ((0 : Int32) + (1 : Int32))) (i := 1) (by decide) (by decide) (by decide) (g := (mkF m 58 #[rv ao, .val .null, iv uf, rv ac, iv ut, iv (0 : Int32)] [(.int (16383 : Int32)), (.int ((0 : Int32) + (1 : Int32))), (.ref bs)])) rfl rfl (hb hby d3_58)
  have N67 := Fr.snoc X67 N41 g_bs
  have f68 := f42.other W67 (Or.inl ne_ao_bs)
  have f69 := f43.other W67 (Or.inl ne_ao_bs)
  have f70 := f44.other W67 (Or.inl ne_ao_bs)
  have f71 := f45.other W67 (Or.inl ne_ao_bs)
  have f72 := f46.other W67 (Or.inl ne_ao_bs)
  have f73 := f47.other W67 (Or.inl ne_ao_bs)
  have f74 := f48.wr W67
  have f75 := f49.other W67 ne_ac_bs
  have z76 := Nat.le_trans z51 (Keep.of_wr W67).1
  have f77 := B67
  have st78 : own_Go p e below (T67.setTop (mkF m 59 #[rv ao, .val .null, iv uf, rv ac, iv ut, iv (0 : Int32)] [])) B0 := fun t kt => st66 t (ls67 t kt)
  have hc79 : ((0 : Int32) + (1 : Int32)) < (ut - uf) := by rw [ht]; decide
  have st80 : own_Go p e below (T67.setTop (mkF m 39 #[rv ao, .val .null, iv uf, rv ac, iv ut, iv ((0 : Int32) + (1 : Int32))] [(.ref ao)])) B0 := fun t kt => st78 t (by
    show own_At p e below T67 m 59 #[rv ao, .val .null, iv uf, rv ac, iv ut, iv (0 : Int32)] [] _
    refine XS.iinc X67.here hx rfl (hb hby d3_59) rfl (l' := #[rv ao, .val .null, iv uf, rv ac, iv ut, iv ((0 : Int32) + (1 : Int32))]) rfl ?_
    show own_At p e below T67 m 62 #[rv ao, .val .null, iv uf, rv ac, iv ut, iv ((0 : Int32) + (1 : Int32))] [] _
    refine XS.goto X67.here hx rfl (pc0 := 62) (pc' := 29) rfl (hb hby d3_62) (by decide) (by decide) ?_
    show own_At p e below T67 m 29 #[rv ao, .val .null, iv uf, rv ac, iv ut, iv ((0 : Int32) + (1 : Int32))] [] _
    refine XS.iload X67.here hx rfl (hb hby d3_29) rfl ?_
    show own_At p e below T67 m 31 #[rv ao, .val .null, iv uf, rv ac, iv ut, iv ((0 : Int32) + (1 : Int32))] [(.int ((0 : Int32) + (1 : Int32)))] _
    refine XS.iload X67.here hx rfl (hb hby d3_31) rfl ?_
    show own_At p e below T67 m 33 #[rv ao, .val .null, iv uf, rv ac, iv ut, iv ((0 : Int32) + (1 : Int32))] [(.int ut), (.int ((0 : Int32) + (1 : Int32)))] _
    refine XS.iloadN X67.here hx rfl (hb hby d3_33) rfl ?_
    show own_At p e below T67 m 34 #[rv ao, .val .null, iv uf, rv ac, iv ut, iv ((0 : Int32) + (1 : Int32))] [(.int uf), (.int ut), (.int ((0 : Int32) + (1 : Int32)))] _
    refine XS.isub X67.here hx rfl (hb hby d3_34) rfl ?_
    show own_At p e below T67 m 35 #[rv ao, .val .null, iv uf, rv ac, iv ut, iv ((0 : Int32) + (1 : Int32))] [(.int (ut - uf)), (.int ((0 : Int32) + (1 : Int32)))] _
    refine XS.icmpNo X67.here hx rfl (hb hby d3_35) rfl (tlt hc79).2.1 ?_
    show own_At p e below T67 m 38 #[rv ao, .val .null, iv uf, rv ac, iv ut, iv ((0 : Int32) + (1 : Int32))] [] _
    refine XS.aloadN X67.here hx rfl (hb hby d3_38) rfl rfl ?_
    show own_At p e below T67 m 39 #[rv ao, .val .null, iv uf, rv ac, iv ut, iv ((0 : Int32) + (1 : Int32))] [(.ref ao)] _
    exact kt)
  obtain ⟨T81, X81, e81, ls81⟩ := getF X67 hx hZ hown (host := "") (Or.inl (hw _ (List.mem_of_getElem? (i := 21) rfl))) Via.refl e67 f70 (g := (mkF m 39 #[rv ao, .val .null, iv uf, rv ac, iv ut, iv ((0 : Int32) + (1 : Int32))] [(.ref ao)])) rfl rfl (hb hby d3_39)
  have st82 : own_Go p e below (T81.setTop (mkF m 42 #[rv ao, .val .null, iv uf, rv ac, iv ut, iv ((0 : Int32) + (1 : Int32))] [(.ref bs)])) B0 := fun t kt => st80 t (ls81 t kt)
  have st83 : own_Go p e below (T81.setTop (mkF m 47 #[rv ao, .val .null, iv uf, rv ac, iv ut, iv ((0 : Int32) + (1 : Int32))] [(.ref ao), (.int (((0 : Int32) + (1 : Int32)) + (1 : Int32))), (.ref bs)])) B0 := fun t kt => st82 t (by
    show own_At p e below T81 m 42 #[rv ao, .val .null, iv uf, rv ac, iv ut, iv ((0 : Int32) + (1 : Int32))] [(.ref bs)] _
    refine XS.iload X81.here hx rfl (hb hby d3_42) rfl ?_
    show own_At p e below T81 m 44 #[rv ao, .val .null, iv uf, rv ac, iv ut, iv ((0 : Int32) + (1 : Int32))] [(.int ((0 : Int32) + (1 : Int32))), (.ref bs)] _
    refine XS.iconst X81.here hx rfl (hb hby d3_44) ?_
    show own_At p e below T81 m 45 #[rv ao, .val .null, iv uf, rv ac, iv ut, iv ((0 : Int32) + (1 : Int32))] [(.int (1 : Int32)), (.int ((0 : Int32) + (1 : Int32))), (.ref bs)] _
    refine XS.iadd X81.here hx rfl (hb hby d3_45) rfl ?_
    show own_At p e below T81 m 46 #[rv ao, .val .null, iv uf, rv ac, iv ut, iv ((0 : Int32) + (1 : Int32))] [(.int (((0 : Int32) + (1 : Int32)) + (1 : Int32))), (.ref bs)] _
    refine XS.aloadN X81.here hx rfl (hb hby d3_46) rfl rfl ?_
    show own_At p e below T81 m 47 #[rv ao, .val .null, iv uf, rv ac, iv ut, iv ((0 : Int32) + (1 : Int32))] [(.ref ao), (.int (((0 : Int32) + (1 : Int32)) + (1 : Int32))), (.ref bs)] _
    exact kt)
  obtain ⟨T84, X84, e84, ls84⟩ := getF X81 hx hZ hown (host := "") (Or.inl (hw _ (List.mem_of_getElem? (i := 21) rfl))) Via.refl e81 f70 (g := (mkF m 47 #[rv ao, .val .null, iv uf, rv ac, iv ut, iv ((0 : Int32) + (1 : Int32))] [(.ref ao), (.int (((0 : Int32) + (1 : Int32)) + (1 : Int32))), (.ref bs)])) rfl rfl (hb hby d3_47)
  have st85 : own_Go p e below (T84.setTop (mkF m 50 #[rv ao, .val .null, iv uf, rv ac, iv ut, iv ((0 : Int32) + (1 : Int32))] [(.ref bs), (.int (((0 : Int32) + (1 : Int32)) + (1 : Int32))), (.ref bs)])) B0 := fun t kt => st83 t (ls84 t kt)
  have st86 : own_Go p e below (T84.setTop (mkF m 52 #[rv ao, .val .null, iv uf, rv ac, iv ut, iv ((0 : Int32) + (1 : Int32))] [(.int ((0 : Int32) + (1 : Int32))), (.ref bs), (.int (((0 : Int32) + (1 : Int32)) + (1 : Int32))), (.ref bs)])) B0 := fun t kt => st85 t (by
    show own_At p e below T84 m 50 #[rv ao, .val .null, iv uf, rv ac, iv ut, iv ((0 : Int32) + (1 : Int32))] [(.ref bs), (.int (((0 : Int32) + (1 : Int32)) + (1 : Int32))), (.ref bs)] _
    refine XS.iload X84.here hx rfl (hb hby d3_50) rfl ?_
    show own_At p e below T84 m 52 #[rv ao, .val .null, iv uf, rv ac, iv ut, iv ((0 : Int32) + (1 : Int32))] [(.int ((0 : Int32) + (1 : Int32))), (.ref bs), (.int (((0 : Int32) + (1 : Int32)) + (1 : Int32))), (.ref bs)] _
    exact kt)
  have ls87 := own_iaload X84 hx hZ e84 f77 (j := ((0 : Int32) + (1 : Int32))) (i := 1) (by decide) (by decide) (by decide) (v := (.int (16383 : Int32))) (rfl) (g := (mkF m 52 #[rv ao, .val .null, iv uf, rv ac, iv ut, iv ((0 : Int32) + (1 : Int32))] [(.int ((0 : Int32) + (1 : Int32))), (.ref bs), (.int (((0 : Int32) + (1 : Int32)) + (1 : Int32))), (.ref bs)])) rfl rfl (hb hby d3_52)
  have st88 : own_Go p e below (T84.setTop (mkF m 53 #[rv ao, .val .null, iv uf, rv ac, iv ut, iv ((0 : Int32) + (1 : Int32))] [(.int (16383 : Int32)), (.int (((0 : Int32) + (1 : Int32)) + (1 : Int32))), (.ref bs)])) B0 := fun t kt => st86 t (ls87 t kt)
  have st89 : own_Go p e below (T84.setTop (mkF m 56 #[rv ao, .val .null, iv uf, rv ac, iv ut, iv ((0 : Int32) + (1 : Int32))] [(.int ((0 : Int32) + (1 : Int32))), (.ref ac), (.int (16383 : Int32)), (.int (((0 : Int32) + (1 : Int32)) + (1 : Int32))), (.ref bs)])) B0 := fun t kt => st88 t (by
    show own_At p e below T84 m 53 #[rv ao, .val .null, iv uf, rv ac, iv ut, iv ((0 : Int32) + (1 : Int32))] [(.int (16383 : Int32)), (.int (((0 : Int32) + (1 : Int32)) + (1 : Int32))), (.ref bs)] _
    refine XS.aloadN X84.here hx rfl (hb hby d3_53) rfl rfl ?_
    show own_At p e below T84 m 54 #[rv ao, .val .null, iv uf, rv ac, iv ut, iv ((0 : Int32) + (1 : Int32))] [(.ref ac), (.int (16383 : Int32)), (.int (((0 : Int32) + (1 : Int32)) + (1 : Int32))), (.ref bs)] _
    refine XS.iload X84.here hx rfl (hb hby d3_54) rfl ?_
    show own_At p e below T84 m 56 #[rv ao, .val .null, iv uf, rv ac, iv ut, iv ((0 : Int32) + (1 : Int32))] [(.int ((0 : Int32) + (1 : Int32))), (.ref ac), (.int (16383 : Int32)), (.int (((0 : Int32) + (1 : Int32)) + (1 : Int32))), (.ref bs)] _
    exact kt)
  have ls90 := own_iaload X84 hx hZ e84 f75 (j := ((0 : Int32) + (1 : Int32))) (i := 1) (by decide) (by decide) (by decide) (v := (.int (2 : Int32))) (hc1) (g := (mkF m 56 #[rv ao, .val .null, iv uf, rv ac, iv ut, iv ((0 : Int32) + (1 : Int32))] [(.int ((0 : Int32) + (1 : Int32))), (.ref ac), (.int (16383 : Int32)), (.int (((0 : Int32) + (1 : Int32)) + (1 : Int32))), (.ref bs)])) rfl rfl (hb hby d3_56)
  have st91 : own_Go p e below (T84.setTop (mkF m 57 #[rv ao, .val .null, iv uf, rv ac, iv ut, iv ((0 : Int32) + (1 : Int32))] [(.int (2 : Int32)), (.int (16383 : Int32)), (.int (((0 : Int32) + (1 : Int32)) + (1 : Int32))), (.ref bs)])) B0 := fun t kt => st89 t (ls90 t kt)
  have st92 : own_Go p e below (T84.setTop (mkF m 58 #[rv ao, .val .null, iv uf, rv ac, iv ut, iv ((0 : Int32) + (1 : Int32))] [(.int (16385 : Int32)), (.int (((0 : Int32) + (1 : Int32)) + (1 : Int32))), (.ref bs)])) B0 := fun t kt => st91 t (by
    show own_At p e below T84 m 57 #[rv ao, .val .null, iv uf, rv ac, iv ut, iv ((0 : Int32) + (1 : Int32))] [(.int (2 : Int32)), (.int (16383 : Int32)), (.int (((0 : Int32) + (1 : Int32)) + (1 : Int32))), (.ref bs)] _
    refine XS.iadd X84.here hx rfl (hb hby d3_57) rfl ?_
    show own_At p e below T84 m 58 #[rv ao, .val .null, iv uf, rv ac, iv ut, iv ((0 : Int32) + (1 : Int32))] [(.int ((16383 : Int32) + (2 : Int32))), (.int (((0 : Int32) + (1 : Int32)) + (1 : Int32))), (.ref bs)] _
    rw [show ((16383 : Int32) + (2 : Int32)) = (16385 : Int32) from (by decide +kernel)]
    show own_At p e below T84 m 58 #[rv ao, .val .null, iv uf, rv ac, iv ut, iv ((0 : Int32) + (1 : Int32))] [(.int (16385 : Int32)), (.int (((0 : Int32) + (1 : Int32)) + (1 : Int32))), (.ref bs)] _
    exact kt)
  obtain ⟨T93, h93, X93, e93, W93, B93, ls93⟩ := own_iastore X84 hx hZ e84 f77 (j := (((0 : Int32) + (1 : Int32)) + (1 : Int32))) (i := 2) (by decide) (by decide) (by decide) (g := (mkF m 58 #[rv ao, .val .null, iv uf, rv ac, iv ut, iv ((0 : Int32) + (1 : Int32))] [(.int (16385 : Int32)), (.int (((0 : Int32) + (1 : Int32)) + (1 : Int32))), (.ref bs)])) rfl rfl (hb hby d3_58)
  have N93 := Fr.snoc X93 N67 g_bs
  have f94 := f68.other W93 (Or.inl ne_ao_bs)
  have f95 := f69.other W93 (Or.inl ne_ao_bs)
  have f96 := f70.other W93 (Or.inl ne_ao_bs)
  have f97 := f71.other W93 (Or.inl ne_ao_bs)
  have f98 := f72.other W93 (Or.inl ne_ao_bs)
  have f99 := f73.other W93 (Or.inl ne_ao_bs)
  have f100 := f74.wr W93
  have f101 := f75.other W93 ne_ac_bs
  have z102 := Nat.le_trans z76 (Keep.of_wr W93).1
  have f103 := B93
  have st104 : own_Go p e below (T93.setTop (mkF m 59 #[rv ao, .val .null, iv uf, rv ac, iv ut, iv ((0 : Int32) + (1 : Int32))] [])) B0 := fun t kt => st92 t (ls93 t kt)
  have hc105 : (((0 : Int32) + (1 : Int32)) + (1 : Int32)) < (ut - uf) := by rw [ht]; decide
  have st106 : own_Go p e below (T93.setTop (mkF m 39 #[rv ao, .val .null, iv uf, rv ac, iv ut, iv (((0 : Int32) + (1 : Int32)) + (1 : Int32))] [(.ref ao)])) B0 := fun t kt => st104 t (by
    show own_At p e below T93 m 59 #[rv ao, .val .null, iv uf, rv ac, iv ut, iv ((0 : Int32) + (1 : Int32))] [] _
    refine XS.iinc X93.here hx rfl (hb hby d3_59) rfl (l' := #[rv ao, .val .null, iv uf, rv ac, iv ut, iv (((0 : Int32) + (1 : Int32)) + (1 : Int32))]) rfl ?_
    show own_At p e below T93 m 62 #[rv ao, .val .null, iv uf, rv ac, iv ut, iv (((0 : Int32) + (1 : Int32)) + (1 : Int32))] [] _
    refine XS.goto X93.here hx rfl (pc0 := 62) (pc' := 29) rfl (hb hby d3_62) (by decide) (by decide) ?_
    show own_At p e below T93 m 29 #[rv ao, .val .null, iv uf, rv ac, iv ut, iv (((0 : Int32) + (1 : Int32)) + (1 : Int32))] [] _
    refine XS.iload X93.here hx rfl (hb hby d3_29) rfl ?_
    show own_At p e below T93 m 31 #[rv ao, .val .null, iv uf, rv ac, iv ut, iv (((0 : Int32) + (1 : Int32)) + (1 : Int32))] [(.int (((0 : Int32) + (1 : Int32)) + (1 : Int32)))] _
    refine XS.iload X93.here hx rfl (hb hby d3_31) rfl ?_
    show own_At p e below T93 m 33 #[rv ao, .val .null, iv uf, rv ac, iv ut, iv (((0 : Int32) + (1 : Int32)) + (1 : Int32))] [(.int ut), (.int (((0 : Int32) + (1 : Int32)) + (1 : Int32)))] _
    refine XS.iloadN X93.here hx rfl (hb hby d3_33) rfl ?_
    show own_At p e below T93 m 34 #[rv ao, .val .null, iv uf, rv ac, iv ut, iv (((0 : Int32) + (1 : Int32)) + (1 : Int32))] [(.int uf), (.int ut), (.int (((0 : Int32) + (1 : Int32)) + (1 : Int32)))] _
    refine XS.isub X93.here hx rfl (hb hby d3_34) rfl ?_
    show own_At p e below T93 m 35 #[rv ao, .val .null, iv uf, rv ac, iv ut, iv (((0 : Int32) + (1 : Int32)) + (1 : Int32))] [(.int (ut - uf)), (.int (((0 : Int32) + (1 : Int32)) + (1 : Int32)))] _
    refine XS.icmpNo X93.here hx rfl (hb hby d3_35) rfl (tlt hc105).2.1 ?_
    show own_At p e below T93 m 38 #[rv ao, .val .null, iv uf, rv ac, iv ut, iv (((0 : Int32) + (1 : Int32)) + (1 : Int32))] [] _
    refine XS.aloadN X93.here hx rfl (hb hby d3_38) rfl rfl ?_
    show own_At p e below T93 m 39 #[rv ao, .val .null, iv uf, rv ac, iv ut, iv (((0 : Int32) + (1 : Int32)) + (1 : Int32))] [(.ref ao)] _
    exact kt)
  obtain ⟨T107, X107, e107, ls107⟩ := getF X93 hx hZ hown (host := "") (Or.inl (hw _ (List.mem_of_getElem? (i := 21) rfl))) Via.refl e93 f96 (g := (mkF m 39 #[rv ao, .val .null, iv uf, rv ac, iv ut, iv (((0 : Int32) + (1 : Int32)) + (1 : Int32))] [(.ref ao)])) rfl rfl (hb hby d3_39)
  have st108 : own_Go p e below (T107.setTop (mkF m 42 #[rv ao, .val .null, iv uf, rv ac, iv ut, iv (((0 : Int32) + (1 : Int32)) + (1 : Int32))] [(.ref bs)])) B0 := fun t kt => st106 t (ls107 t kt)
  have st109 : own_Go p e below (T107.setTop (mkF m 47 #[rv ao, .val .null, iv uf, rv ac, iv ut, iv (((0 : Int32) + (1 : Int32)) + (1 : Int32))] [(.ref ao), (.int ((((0 : Int32) + (1 : Int32)) + (1 : Int32)) + (1 : Int32))), (.ref bs)])) B0 := fun t kt => st108 t (by
    show own_At p e below T107 m 42 #[rv ao, .val .null, iv uf, rv ac, iv ut, iv (((0 : Int32) + (1 : Int32)) + (1 : Int32))] [(.ref bs)] _
    refine XS.iload X107.here hx rfl (hb hby d3_42) rfl ?_
    show own_At p e below T107 m 44 #[rv ao, .val .null, iv uf, rv ac, iv ut, iv (((0 : Int32) + (1 : Int32)) + (1 : Int32))] [(.int (((0 : Int32) + (1 : Int32)) + (1 : Int32))), (.ref bs)] _
    refine XS.iconst X107.here hx rfl (hb hby d3_44) ?_
    show own_At p e below T107 m 45 #[rv ao, .val .null, iv uf, rv ac, iv ut, iv (((0 : Int32) + (1 : Int32)) + (1 : Int32))] [(.int (1 : Int32)), (.int (((0 : Int32) + (1 : Int32)) + (1 : Int32))), (.ref bs)] _
    refine XS.iadd X107.here hx rfl (hb hby d3_45) rfl ?_
    show own_At p e below T107 m 46 #[rv ao, .val .null, iv uf, rv ac, iv ut, iv (((0 : Int32) + (1 : Int32)) + (1 : Int32))] [(.int ((((0 : Int32) + (1 : Int32)) + (1 : Int32)) + (1 : Int32))), (.ref bs)] _
    refine XS.aloadN X107.here hx rfl (hb hby d3_46) rfl rfl ?_
    show own_At p e below T107 m 47 #[rv ao, .val .null, iv uf, rv ac, iv ut, iv (((0 : Int32) + (1 : Int32)) + (1 : Int32))] [(.ref ao), (.int ((((0 : Int32) + (1 : Int32)) + (1 : Int32)) + (1 : Int32))), (.ref bs)] _
    exact kt)
  obtain ⟨T110, X110, e110, ls110⟩ := getF X107 hx hZ hown (host := "") (Or.inl (hw _ (List.mem_of_getElem? (i := 21) rfl))) Via.refl e107 f96 (g := (mkF m 47 #[rv ao, .val .null, iv uf, rv ac, iv ut, iv (((0 : Int32) + (1 : Int32)) + (1 : Int32))] [(.ref ao), (.int ((((0 : Int32) + (1 : Int32)) + (1 : Int32)) + (1 : Int32))), (.ref bs)])) rfl rfl (hb hby d3_47)
  have st111 : own_Go p e below (T110.setTop (mkF m 50 #[rv ao, .val .null, iv uf, rv ac, iv ut, iv (((0 : Int32) + (1 : Int32)) + (1 : Int32))] [(.ref bs), (.int ((((0 : Int32) + (1 : Int32)) + (1 : Int32)) + (1 : Int32))), (.ref bs)])) B0 := fun t kt => st109 t (ls110 t kt)
  have st112 : own_Go p e below (T110.setTop (mkF m 52 #[rv ao, .val .null, iv uf, rv ac, iv ut, iv (((0 : Int32) + (1 : Int32)) + (1 : Int32))] [(.int (((0 : Int32) + (1 : Int32)) + (1 : Int32))), (.ref bs), (.int ((((0 : Int32) + (1 : Int32)) + (1 : Int32)) + (1 : Int32))), (.ref bs)])) B0 := fun t kt => st111 t (by
    show own_At p e below T110 m 50 #[rv ao, .val .null, iv uf, rv ac, iv ut, iv (((0 : Int32) + (1 : Int32)) + (1 : Int32))] [(.ref bs), (.int ((((0 : Int32) + (1 : Int32)) + (1 : Int32)) + (1 : Int32))), (.ref bs)] _
    refine XS.iload X110.here hx rfl (hb hby d3_50) rfl ?_
    show own_At p e below T110 m 52 #[rv ao, .val .null, iv uf, rv ac, iv ut, iv (((0 : Int32) + (1 : Int32)) + (1 : Int32))] [(.int (((0 : Int32) + (1 : Int32)) + (1 : Int32))), (.ref bs), (.int ((((0 : Int32) + (1 : Int32)) + (1 : Int32)) + (1 : Int32))), (.ref bs)] _
    exact kt)
  have ls113 := own_iaload X110 hx hZ e110 f103 (j := (((0 : Int32) + (1 : Int32)) + (1 : Int32))) (i := 2) (by decide) (by decide) (by decide) (v := (.int (16385 : Int32))) (rfl) (g := (mkF m 52 #[rv ao, .val .null, iv uf, rv ac, iv ut, iv (((0 : Int32) + (1 : Int32)) + (1 : Int32))] [(.int (((0 : Int32) + (1 : Int32)) + (1 : Int32))), (.ref bs), (.int ((((0 : Int32) + (1 : Int32)) + (1 : Int32)) + (1 : Int32))), (.ref bs)])) rfl rfl (hb hby d3_52)
  have st114 : own_Go p e below (T110.setTop (mkF m 53 #[rv ao, .val .null, iv uf, rv ac, iv ut, iv (((0 : Int32) + (1 : Int32)) + (1 : Int32))] [(.int (16385 : Int32)), (.int ((((0 : Int32) + (1 : Int32)) + (1 : Int32)) + (1 : Int32))), (.ref bs)])) B0 := fun t kt => st112 t (ls113 t kt)
  have st115 : own_Go p e below (T110.setTop (mkF m 56 #[rv ao, .val .null, iv uf, rv ac, iv ut, iv (((0 : Int32) + (1 : Int32)) + (1 : Int32))] [(.int (((0 : Int32) + (1 : Int32)) + (1 : Int32))), (.ref ac), (.int (16385 : Int32)), (.int ((((0 : Int32) + (1 : Int32)) + (1 : Int32)) + (1 : Int32))), (.ref bs)])) B0 := fun t kt => st114 t (by
    show own_At p e below T110 m 53 #[rv ao, .val .null, iv uf, rv ac, iv ut, iv (((0 : Int32) + (1 : Int32)) + (1 : Int32))] [(.int (16385 : Int32)), (.int ((((0 : Int32) + (1 : Int32)) + (1 : Int32)) + (1 : Int32))), (.ref bs)] _
    refine XS.aloadN X110.here hx rfl (hb hby d3_53) rfl rfl ?_
    show own_At p e below T110 m 54 #[rv ao, .val .null, iv uf, rv ac, iv ut, iv (((0 : Int32) + (1 : Int32)) + (1 : Int32))] [(.ref ac), (.int (16385 : Int32)), (.int ((((0 : Int32) + (1 : Int32)) + (1 : Int32)) + (1 : Int32))), (.ref bs)] _
    refine XS.iload X110.here hx rfl (hb hby d3_54) rfl ?_
    show own_At p e below T110 m 56 #[rv ao, .val .null, iv uf, rv ac, iv ut, iv (((0 : Int32) + (1 : Int32)) + (1 : Int32))] [(.int (((0 : Int32) + (1 : Int32)) + (1 : Int32))), (.ref ac), (.int (16385 : Int32)), (.int ((((0 : Int32) + (1 : Int32)) + (1 : Int32)) + (1 : Int32))), (.ref bs)] _
    exact kt)
  have ls116 := own_iaload X110 hx hZ e110 f101 (j := (((0 : Int32) + (1 : Int32)) + (1 : Int32))) (i := 2) (by decide) (by decide) (by decide) (v := (.int (1 : Int32))) (hc2) (g := (mkF m 56 #[rv ao, .val .null, iv uf, rv ac, iv ut, iv (((0 : Int32) + (1 : Int32)) + (1 : Int32))] [(.int (((0 : Int32) + (1 : Int32)) + (1 : Int32))), (.ref ac), (.int (16385 : Int32)), (.int ((((0 : Int32) + (1 : Int32)) + (1 : Int32)) + (1 : Int32))), (.ref bs)])) rfl rfl (hb hby d3_56)
  have st117 : own_Go p e below (T110.setTop (mkF m 57 #[rv ao, .val .null, iv uf, rv ac, iv ut, iv (((0 : Int32) + (1 : Int32)) + (1 : Int32))] [(.int (1 : Int32)), (.int (16385 : Int32)), (.int ((((0 : Int32) + (1 : Int32)) + (1 : Int32)) + (1 : Int32))), (.ref bs)])) B0 := fun t kt => st115 t (ls116 t kt)
  have st118 : own_Go p e below (T110.setTop (mkF m 58 #[rv ao, .val .null, iv uf, rv ac, iv ut, iv (((0 : Int32) + (1 : Int32)) + (1 : Int32))] [(.int (16386 : Int32)), (.int ((((0 : Int32) + (1 : Int32)) + (1 : Int32)) + (1 : Int32))), (.ref bs)])) B0 := fun t kt => st117 t (by
    show own_At p e below T110 m 57 #[rv ao, .val .null, iv uf, rv ac, iv ut, iv (((0 : Int32) + (1 : Int32)) + (1 : Int32))] [(.int (1 : Int32)), (.int (16385 : Int32)), (.int ((((0 : Int32) + (1 : Int32)) + (1 : Int32)) + (1 : Int32))), (.ref bs)] _
    refine XS.iadd X110.here hx rfl (hb hby d3_57) rfl ?_
    show own_At p e below T110 m 58 #[rv ao, .val .null, iv uf, rv ac, iv ut, iv (((0 : Int32) + (1 : Int32)) + (1 : Int32))] [(.int ((16385 : Int32) + (1 : Int32))), (.int ((((0 : Int32) + (1 : Int32)) + (1 : Int32)) + (1 : Int32))), (.ref bs)] _
    rw [show ((16385 : Int32) + (1 : Int32)) = (16386 : Int32) from (by decide +kernel)]
    show own_At p e below T110 m 58 #[rv ao, .val .null, iv uf, rv ac, iv ut, iv (((0 : Int32) + (1 : Int32)) + (1 : Int32))] [(.int (16386 : Int32)), (.int ((((0 : Int32) + (1 : Int32)) + (1 : Int32)) + (1 : Int32))), (.ref bs)] _
    exact kt)
  obtain ⟨T119, h119, X119, e119, W119, B119, ls119⟩ := own_iastore X110 hx hZ e110 f103 (j := ((((0 : Int32) + (1 : Int32)) + (1 : Int32)) + (1 : Int32))) (i := 3) (by decide) (by decide) (by decide) (g := (mkF m 58 #[rv ao, .val .null, iv uf, rv ac, iv ut, iv (((0 : Int32) + (1 : Int32)) + (1 : Int32))] [(.int (16386 : Int32)), (.int ((((0 : Int32) + (1 : Int32)) + (1 : Int32)) + (1 : Int32))), (.ref bs)])) rfl rfl (hb hby d3_58)
  have N119 := Fr.snoc X119 N93 g_bs
  have f120 := f94.other W119 (Or.inl ne_ao_bs)
  have f121 := f95.other W119 (Or.inl ne_ao_bs)
  have f122 := f96.other W119 (Or.inl ne_ao_bs)
  have f123 := f97.other W119 (Or.inl ne_ao_bs)
  have f124 := f98.other W119 (Or.inl ne_ao_bs)
  have f125 := f99.other W119 (Or.inl ne_ao_bs)
  have f126 := f100.wr W119
  have f127 := f101.other W119 ne_ac_bs
  have z128 := Nat.le_trans z102 (Keep.of_wr W119).1
  have f129 := B119.congr (g := (fun q => .int (own_st 16383 16385 16386 q))) (fun q hq => match q, hq with | 0, _ => rfl | 1, _ => rfl | 2, _ => rfl | 3, _ => rfl | _ + 4, z => absurd z (by omega))
  have st130 : own_Go p e below (T119.setTop (mkF m 59 #[rv ao, .val .null, iv uf, rv ac, iv ut, iv (((0 : Int32) + (1 : Int32)) + (1 : Int32))] [])) B0 := fun t kt => st118 t (ls119 t kt)
  have hc131 : ¬ (((((0 : Int32) + (1 : Int32)) + (1 : Int32)) + (1 : Int32)) < (ut - uf)) := by rw [ht]; decide
  have st132 : own_Go p e below (T119.setTop (mkF m 67 #[rv ao, .val .null, iv uf, rv ac, iv ut, iv ((((0 : Int32) + (1 : Int32)) + (1 : Int32)) + (1 : Int32))] [(.ref ao), (.ref ao)])) B0 := fun t kt => st130 t (by
    show own_At p e below T119 m 59 #[rv ao, .val .null, iv uf, rv ac, iv ut, iv (((0 : Int32) + (1 : Int32)) + (1 : Int32))] [] _
    refine XS.iinc X119.here hx rfl (hb hby d3_59) rfl (l' := #[rv ao, .val .null, iv uf, rv ac, iv ut, iv ((((0 : Int32) + (1 : Int32)) + (1 : Int32)) + (1 : Int32))]) rfl ?_
    show own_At p e below T119 m 62 #[rv ao, .val .null, iv uf, rv ac, iv ut, iv ((((0 : Int32) + (1 : Int32)) + (1 : Int32)) + (1 : Int32))] [] _
    refine XS.goto X119.here hx rfl (pc0 := 62) (pc' := 29) rfl (hb hby d3_62) (by decide) (by decide) ?_
    show own_At p e below T119 m 29 #[rv ao, .val .null, iv uf, rv ac, iv ut, iv ((((0 : Int32) + (1 : Int32)) + (1 : Int32)) + (1 : Int32))] [] _
    refine XS.iload X119.here hx rfl (hb hby d3_29) rfl ?_
    show own_At p e below T119 m 31 #[rv ao, .val .null, iv uf, rv ac, iv ut, iv ((((0 : Int32) + (1 : Int32)) + (1 : Int32)) + (1 : Int32))] [(.int ((((0 : Int32) + (1 : Int32)) + (1 : Int32)) + (1 : Int32)))] _
    refine XS.iload X119.here hx rfl (hb hby d3_31) rfl ?_
    show own_At p e below T119 m 33 #[rv ao, .val .null, iv uf, rv ac, iv ut, iv ((((0 : Int32) + (1 : Int32)) + (1 : Int32)) + (1 : Int32))] [(.int ut), (.int ((((0 : Int32) + (1 : Int32)) + (1 : Int32)) + (1 : Int32)))] _
    refine XS.iloadN X119.here hx rfl (hb hby d3_33) rfl ?_
    show own_At p e below T119 m 34 #[rv ao, .val .null, iv uf, rv ac, iv ut, iv ((((0 : Int32) + (1 : Int32)) + (1 : Int32)) + (1 : Int32))] [(.int uf), (.int ut), (.int ((((0 : Int32) + (1 : Int32)) + (1 : Int32)) + (1 : Int32)))] _
    refine XS.isub X119.here hx rfl (hb hby d3_34) rfl ?_
    show own_At p e below T119 m 35 #[rv ao, .val .null, iv uf, rv ac, iv ut, iv ((((0 : Int32) + (1 : Int32)) + (1 : Int32)) + (1 : Int32))] [(.int (ut - uf)), (.int ((((0 : Int32) + (1 : Int32)) + (1 : Int32)) + (1 : Int32)))] _
    refine XS.icmpYes X119.here hx rfl (pc0 := 35) (pc' := 65) rfl (hb hby d3_35) rfl (flt hc131).2.1 (by decide) (by decide) ?_
    show own_At p e below T119 m 65 #[rv ao, .val .null, iv uf, rv ac, iv ut, iv ((((0 : Int32) + (1 : Int32)) + (1 : Int32)) + (1 : Int32))] [] _
    refine XS.aloadN X119.here hx rfl (hb hby d3_65) rfl rfl ?_
    show own_At p e below T119 m 66 #[rv ao, .val .null, iv uf, rv ac, iv ut, iv ((((0 : Int32) + (1 : Int32)) + (1 : Int32)) + (1 : Int32))] [(.ref ao)] _
    refine XS.aloadN X119.here hx rfl (hb hby d3_66) rfl rfl ?_
    show own_At p e below T119 m 67 #[rv ao, .val .null, iv uf, rv ac, iv ut, iv ((((0 : Int32) + (1 : Int32)) + (1 : Int32)) + (1 : Int32))] [(.ref ao), (.ref ao)] _
    exact kt)
  obtain ⟨T133, X133, e133, ls133⟩ := getF X119 hx hZ hown (host := "") (Or.inl (hw _ (List.mem_of_getElem? (i := 21) rfl))) Via.refl e119 f122 (g := (mkF m 67 #[rv ao, .val .null, iv uf, rv ac, iv ut, iv ((((0 : Int32) + (1 : Int32)) + (1 : Int32)) + (1 : Int32))] [(.ref ao), (.ref ao)])) rfl rfl (hb hby d3_67)
  have st134 : own_Go p e below (T133.setTop (mkF m 70 #[rv ao, .val .null, iv uf, rv ac, iv ut, iv ((((0 : Int32) + (1 : Int32)) + (1 : Int32)) + (1 : Int32))] [(.ref bs), (.ref ao)])) B0 := fun t kt => st132 t (ls133 t kt)
  have st135 : own_Go p e below (T133.setTop (mkF m 74 #[rv ao, .val .null, iv uf, rv ac, iv ut, iv ((((0 : Int32) + (1 : Int32)) + (1 : Int32)) + (1 : Int32))] [(.int (ut - uf)), (.ref bs), (.ref ao)])) B0 := fun t kt => st134 t (by
    show own_At p e below T133 m 70 #[rv ao, .val .null, iv uf, rv ac, iv ut, iv ((((0 : Int32) + (1 : Int32)) + (1 : Int32)) + (1 : Int32))] [(.ref bs), (.ref ao)] _
    refine XS.iload X133.here hx rfl (hb hby d3_70) rfl ?_
    show own_At p e below T133 m 72 #[rv ao, .val .null, iv uf, rv ac, iv ut, iv ((((0 : Int32) + (1 : Int32)) + (1 : Int32)) + (1 : Int32))] [(.int ut), (.ref bs), (.ref ao)] _
    refine XS.iloadN X133.here hx rfl (hb hby d3_72) rfl ?_
    show own_At p e below T133 m 73 #[rv ao, .val .null, iv uf, rv ac, iv ut, iv ((((0 : Int32) + (1 : Int32)) + (1 : Int32)) + (1 : Int32))] [(.int uf), (.int ut), (.ref bs), (.ref ao)] _
    refine XS.isub X133.here hx rfl (hb hby d3_73) rfl ?_
    show own_At p e below T133 m 74 #[rv ao, .val .null, iv uf, rv ac, iv ut, iv ((((0 : Int32) + (1 : Int32)) + (1 : Int32)) + (1 : Int32))] [(.int (ut - uf)), (.ref bs), (.ref ao)] _
    exact kt)
  have ls136 := own_iaload X133 hx hZ e133 f129 (j := (ut - uf)) (i := 3) (by rw [ht]; decide) (by rw [ht]; decide) (by decide) (v := (.int (16386 : Int32))) (rfl) (g := (mkF m 74 #[rv ao, .val .null, iv uf, rv ac, iv ut, iv ((((0 : Int32) + (1 : Int32)) + (1 : Int32)) + (1 : Int32))] [(.int (ut - uf)), (.ref bs), (.ref ao)])) rfl rfl (hb hby d3_74)
  have st137 : own_Go p e below (T133.setTop (mkF m 75 #[rv ao, .val .null, iv uf, rv ac, iv ut, iv ((((0 : Int32) + (1 : Int32)) + (1 : Int32)) + (1 : Int32))] [(.int (16386 : Int32)), (.ref ao)])) B0 := fun t kt => st135 t (ls136 t kt)
  have lt138_ao := f120.lt
  have lt138_ac := f127.lt
  have lt138_bs := f129.lt
  obtain ⟨_, _, ⟨T138, L138, k138, n138⟩, -, X138, ⟨Lc138, hQ138, l138, y138, z138⟩, ls138⟩ := Jvm.LawKit.callS X133 hx (y := (⟨"com/example/ranked_text_search/rankedtextsearch/MemoryTermVectors", "pages", "(I)[[I"⟩ : MethodName)) hown (mvT hZ (hw _ (List.mem_of_getElem? (i := 23) rfl))) (mvT hZ (hw _ (List.mem_of_getElem? (i := 24) rfl))) (mvT hZ (hw _ (List.mem_of_getElem? (i := 10) rfl))) (mvT hZ (hw _ (List.mem_of_getElem? (i := 25) rfl))) (by decide) (backOf (W := 1) (rm_pages16386 l Z a0 hw []  h119 n0 z128) hZ (hw _ (List.mem_of_getElem? (i := 25) rfl)) (hw _ (List.mem_of_getElem? (i := 10) rfl)) (by decide) (by decide)) (g := (mkF m 75 #[rv ao, .val .null, iv uf, rv ac, iv ut, iv ((((0 : Int32) + (1 : Int32)) + (1 : Int32)) + (1 : Int32))] [(.int (16386 : Int32)), (.ref ao)])) rfl (by rw [hml]; rfl) (argsL := [(.int (16386 : Int32))]) (rest := [(.ref ao)]) (lenOf own_pd1 rfl) rfl (by show 2 * 0 + _ ≤ _; exact Nat.le_of_eq rfl) (hb hby d3_75) (fun _ _ => ⟨rfl, e133, (by decide : 1 + 3 ≤ _), (by decide : 4 + 16388 ≤ _)⟩)
  dsimp only [Pt.U, Pt.locs, Pt.cells, Pt.slots] at X138 l138 y138 z138 ls138 hQ138
  subst l138 y138 z138
  obtain ⟨bq138, t0q138, t1q138, rfl, Nq138, Kq138, g_bq138, sq138, g_t0q138, st0q138, ne_bq138_t0q138, g_t1q138, st1q138, ne_bq138_t1q138, ne_t0q138_t1q138, Aq138, At0q138, At1q138⟩ := hQ138
  have N138 := Fr.app N119 Nq138
  have f139 := f120.keep Kq138 nin0
  have f140 := f121.keep Kq138 nin0
  have f141 := f122.keep Kq138 nin0
  have f142 := f123.keep Kq138 nin0
  have f143 := f124.keep Kq138 nin0
  have f144 := f125.keep Kq138 nin0
  have f145 := f126.keep Kq138
  have f146 := f127.keep Kq138 nin0
  have f147 := f129.keep Kq138 nin0
  have z148 := Nat.le_trans z128 Kq138.1
  have ne_ao_bq138 : ao ≠ bq138 := Nat.ne_of_lt (Nat.lt_of_lt_of_le lt138_ao sq138)
  have ne_ac_bq138 : ac ≠ bq138 := Nat.ne_of_lt (Nat.lt_of_lt_of_le lt138_ac sq138)
  have ne_bs_bq138 : bs ≠ bq138 := Nat.ne_of_lt (Nat.lt_of_lt_of_le lt138_bs sq138)
  have ne_ao_t0q138 : ao ≠ t0q138 := Nat.ne_of_lt (Nat.lt_of_lt_of_le lt138_ao st0q138)
  have ne_ac_t0q138 : ac ≠ t0q138 := Nat.ne_of_lt (Nat.lt_of_lt_of_le lt138_ac st0q138)
  have ne_bs_t0q138 : bs ≠ t0q138 := Nat.ne_of_lt (Nat.lt_of_lt_of_le lt138_bs st0q138)
  have ne_ao_t1q138 : ao ≠ t1q138 := Nat.ne_of_lt (Nat.lt_of_lt_of_le lt138_ao st1q138)
  have ne_ac_t1q138 : ac ≠ t1q138 := Nat.ne_of_lt (Nat.lt_of_lt_of_le lt138_ac st1q138)
  have ne_bs_t1q138 : bs ≠ t1q138 := Nat.ne_of_lt (Nat.lt_of_lt_of_le lt138_bs st1q138)
  have st149 : own_Go p e below (T138.setTop (mkF m 78 #[rv ao, .val .null, iv uf, rv ac, iv ut, iv ((((0 : Int32) + (1 : Int32)) + (1 : Int32)) + (1 : Int32))] [(.ref bq138), (.ref ao)])) B0 := fun t kt => st137 t (ls138 t kt)
  obtain ⟨T150, h150, X150, e150, W150, ls150⟩ := putF X138 hx hZ hown (host := "") (Or.inl (hw _ (List.mem_of_getElem? (i := 31) rfl))) Via.refl rfl f142 f145 (Or.inr ⟨(hw _ (List.mem_of_getElem? (i := 32) rfl)), rfl, hnm⟩) (hw _ (List.mem_of_getElem? (i := 9) rfl)) (ty := (.array (.array .int))) (by decide) rfl rfl (g := (mkF m 78 #[rv ao, .val .null, iv uf, rv ac, iv ut, iv ((((0 : Int32) + (1 : Int32)) + (1 : Int32)) + (1 : Int32))] [(.ref bq138), (.ref ao)])) rfl rfl (hb hby d3_78)
  have N150 := Fr.snoc X150 N138 g_ao
  have f151 := f139.other W150 (Or.inr (slot_ne (Or.inr (hw _ (List.mem_of_getElem? (i := 18) rfl))) (Or.inr (hw _ (List.mem_of_getElem? (i := 32) rfl))) (by decide) (t := (.array (.object "java/lang/String"))) (t' := (.array (.array .int))) (by decide) (by decide)))
  have f152 := f140.other W150 (Or.inr (slot_ne (Or.inr (hw _ (List.mem_of_getElem? (i := 20) rfl))) (Or.inr (hw _ (List.mem_of_getElem? (i := 32) rfl))) (by decide) (t := .int) (t' := (.array (.array .int))) (by decide) (by decide)))
  have f153 := f141.other W150 (Or.inr (slot_ne (Or.inr (hw _ (List.mem_of_getElem? (i := 22) rfl))) (Or.inr (hw _ (List.mem_of_getElem? (i := 32) rfl))) (by decide) (t := (.array .int)) (t' := (.array (.array .int))) (by decide) (by decide)))
  have f154 := f142.same W150
  have f155 := f143.other W150 (Or.inr (slot_ne (Or.inr (hw _ (List.mem_of_getElem? (i := 34) rfl))) (Or.inr (hw _ (List.mem_of_getElem? (i := 32) rfl))) (by decide) (t := (.array (.array .int))) (t' := (.array (.array .int))) (by decide) (by decide)))
  have f156 := f144.other W150 (Or.inr (slot_ne (Or.inr (hw _ (List.mem_of_getElem? (i := 45) rfl))) (Or.inr (hw _ (List.mem_of_getElem? (i := 32) rfl))) (by decide) (t := (.array .int)) (t' := (.array (.array .int))) (by decide) (by decide)))
  have f157 := f145.wr W150
  have f158 := f146.other W150 (Ne.symm ne_ao_ac)
  have f159 := f147.other W150 (Ne.symm ne_ao_bs)
  have f160 := Aq138.other W150 (Ne.symm ne_ao_bq138)
  have f161 := At0q138.other W150 (Ne.symm ne_ao_t0q138)
  have f162 := At1q138.other W150 (Ne.symm ne_ao_t1q138)
  have z163 := Nat.le_trans z148 (Keep.of_wr W150).1
  have st164 : own_Go p e below (T150.setTop (mkF m 81 #[rv ao, .val .null, iv uf, rv ac, iv ut, iv ((((0 : Int32) + (1 : Int32)) + (1 : Int32)) + (1 : Int32))] [])) B0 := fun t kt => st149 t (ls150 t kt)
  have st165 : own_Go p e below (T150.setTop (mkF m 83 #[rv ao, .val .null, iv uf, rv ac, iv ut, iv ((((0 : Int32) + (1 : Int32)) + (1 : Int32)) + (1 : Int32))] [(.ref ao), (.ref ao)])) B0 := fun t kt => st164 t (by
    show own_At p e below T150 m 81 #[rv ao, .val .null, iv uf, rv ac, iv ut, iv ((((0 : Int32) + (1 : Int32)) + (1 : Int32)) + (1 : Int32))] [] _
    refine XS.aloadN X150.here hx rfl (hb hby d3_81) rfl rfl ?_
    show own_At p e below T150 m 82 #[rv ao, .val .null, iv uf, rv ac, iv ut, iv ((((0 : Int32) + (1 : Int32)) + (1 : Int32)) + (1 : Int32))] [(.ref ao)] _
    refine XS.aloadN X150.here hx rfl (hb hby d3_82) rfl rfl ?_
    show own_At p e below T150 m 83 #[rv ao, .val .null, iv uf, rv ac, iv ut, iv ((((0 : Int32) + (1 : Int32)) + (1 : Int32)) + (1 : Int32))] [(.ref ao), (.ref ao)] _
    exact kt)
  obtain ⟨T166, X166, e166, ls166⟩ := getF X150 hx hZ hown (host := "") (Or.inl (hw _ (List.mem_of_getElem? (i := 21) rfl))) Via.refl e150 f153 (g := (mkF m 83 #[rv ao, .val .null, iv uf, rv ac, iv ut, iv ((((0 : Int32) + (1 : Int32)) + (1 : Int32)) + (1 : Int32))] [(.ref ao), (.ref ao)])) rfl rfl (hb hby d3_83)
  have st167 : own_Go p e below (T166.setTop (mkF m 86 #[rv ao, .val .null, iv uf, rv ac, iv ut, iv ((((0 : Int32) + (1 : Int32)) + (1 : Int32)) + (1 : Int32))] [(.ref bs), (.ref ao)])) B0 := fun t kt => st165 t (ls166 t kt)
  have st168 : own_Go p e below (T166.setTop (mkF m 90 #[rv ao, .val .null, iv uf, rv ac, iv ut, iv ((((0 : Int32) + (1 : Int32)) + (1 : Int32)) + (1 : Int32))] [(.int (ut - uf)), (.ref bs), (.ref ao)])) B0 := fun t kt => st167 t (by
    show own_At p e below T166 m 86 #[rv ao, .val .null, iv uf, rv ac, iv ut, iv ((((0 : Int32) + (1 : Int32)) + (1 : Int32)) + (1 : Int32))] [(.ref bs), (.ref ao)] _
    refine XS.iload X166.here hx rfl (hb hby d3_86) rfl ?_
    show own_At p e below T166 m 88 #[rv ao, .val .null, iv uf, rv ac, iv ut, iv ((((0 : Int32) + (1 : Int32)) + (1 : Int32)) + (1 : Int32))] [(.int ut), (.ref bs), (.ref ao)] _
    refine XS.iloadN X166.here hx rfl (hb hby d3_88) rfl ?_
    show own_At p e below T166 m 89 #[rv ao, .val .null, iv uf, rv ac, iv ut, iv ((((0 : Int32) + (1 : Int32)) + (1 : Int32)) + (1 : Int32))] [(.int uf), (.int ut), (.ref bs), (.ref ao)] _
    refine XS.isub X166.here hx rfl (hb hby d3_89) rfl ?_
    show own_At p e below T166 m 90 #[rv ao, .val .null, iv uf, rv ac, iv ut, iv ((((0 : Int32) + (1 : Int32)) + (1 : Int32)) + (1 : Int32))] [(.int (ut - uf)), (.ref bs), (.ref ao)] _
    exact kt)
  have ls169 := own_iaload X166 hx hZ e166 f159 (j := (ut - uf)) (i := 3) (by rw [ht]; decide) (by rw [ht]; decide) (by decide) (v := (.int (16386 : Int32))) (rfl) (g := (mkF m 90 #[rv ao, .val .null, iv uf, rv ac, iv ut, iv ((((0 : Int32) + (1 : Int32)) + (1 : Int32)) + (1 : Int32))] [(.int (ut - uf)), (.ref bs), (.ref ao)])) rfl rfl (hb hby d3_90)
  have st170 : own_Go p e below (T166.setTop (mkF m 91 #[rv ao, .val .null, iv uf, rv ac, iv ut, iv ((((0 : Int32) + (1 : Int32)) + (1 : Int32)) + (1 : Int32))] [(.int (16386 : Int32)), (.ref ao)])) B0 := fun t kt => st168 t (ls169 t kt)
  have lt171_ao := f151.lt
  have lt171_ac := f158.lt
  have lt171_bs := f159.lt
  have lt171_bq138 := f160.lt
  have lt171_t0q138 := f161.lt
  have lt171_t1q138 := f162.lt
  obtain ⟨_, _, ⟨T171, L171, k171, n171⟩, -, X171, ⟨Lc171, hQ171, l171, y171, z171⟩, ls171⟩ := Jvm.LawKit.callS X166 hx (y := (⟨"com/example/ranked_text_search/rankedtextsearch/MemoryTermVectors", "pages", "(I)[[I"⟩ : MethodName)) hown (mvT hZ (hw _ (List.mem_of_getElem? (i := 23) rfl))) (mvT hZ (hw _ (List.mem_of_getElem? (i := 24) rfl))) (mvT hZ (hw _ (List.mem_of_getElem? (i := 10) rfl))) (mvT hZ (hw _ (List.mem_of_getElem? (i := 25) rfl))) (by decide) (backOf (W := 1) (rm_pages16386 l Z a0 hw []  h150 n0 z163) hZ (hw _ (List.mem_of_getElem? (i := 25) rfl)) (hw _ (List.mem_of_getElem? (i := 10) rfl)) (by decide) (by decide)) (g := (mkF m 91 #[rv ao, .val .null, iv uf, rv ac, iv ut, iv ((((0 : Int32) + (1 : Int32)) + (1 : Int32)) + (1 : Int32))] [(.int (16386 : Int32)), (.ref ao)])) rfl (by rw [hml]; rfl) (argsL := [(.int (16386 : Int32))]) (rest := [(.ref ao)]) (lenOf own_pd1 rfl) rfl (by show 2 * 0 + _ ≤ _; exact Nat.le_of_eq rfl) (hb hby d3_91) (fun _ _ => ⟨rfl, e166, (by decide : 4 + 3 ≤ _), (by decide : 16392 + 16388 ≤ _)⟩)
  dsimp only [Pt.U, Pt.locs, Pt.cells, Pt.slots] at X171 l171 y171 z171 ls171 hQ171
  subst l171 y171 z171
  obtain ⟨bq171, t0q171, t1q171, rfl, Nq171, Kq171, g_bq171, sq171, g_t0q171, st0q171, ne_bq171_t0q171, g_t1q171, st1q171, ne_bq171_t1q171, ne_t0q171_t1q171, Aq171, At0q171, At1q171⟩ := hQ171
  have N171 := Fr.app N150 Nq171
  have f172 := f151.keep Kq171 nin0
  have f173 := f152.keep Kq171 nin0
  have f174 := f153.keep Kq171 nin0
  have f175 := f154.keep Kq171 nin0
  have f176 := f155.keep Kq171 nin0
  have f177 := f156.keep Kq171 nin0
  have f178 := f157.keep Kq171
  have f179 := f158.keep Kq171 nin0
  have f180 := f159.keep Kq171 nin0
  have f181 := f160.keep Kq171 nin0
  have f182 := f161.keep Kq171 nin0
  have f183 := f162.keep Kq171 nin0
  have z184 := Nat.le_trans z163 Kq171.1
  have ne_ao_bq171 : ao ≠ bq171 := Nat.ne_of_lt (Nat.lt_of_lt_of_le lt171_ao sq171)
  have ne_ac_bq171 : ac ≠ bq171 := Nat.ne_of_lt (Nat.lt_of_lt_of_le lt171_ac sq171)
  have ne_bs_bq171 : bs ≠ bq171 := Nat.ne_of_lt (Nat.lt_of_lt_of_le lt171_bs sq171)
  have ne_bq138_bq171 : bq138 ≠ bq171 := Nat.ne_of_lt (Nat.lt_of_lt_of_le lt171_bq138 sq171)
  have ne_t0q138_bq171 : t0q138 ≠ bq171 := Nat.ne_of_lt (Nat.lt_of_lt_of_le lt171_t0q138 sq171)
  have ne_t1q138_bq171 : t1q138 ≠ bq171 := Nat.ne_of_lt (Nat.lt_of_lt_of_le lt171_t1q138 sq171)
  have ne_ao_t0q171 : ao ≠ t0q171 := Nat.ne_of_lt (Nat.lt_of_lt_of_le lt171_ao st0q171)
  have ne_ac_t0q171 : ac ≠ t0q171 := Nat.ne_of_lt (Nat.lt_of_lt_of_le lt171_ac st0q171)
  have ne_bs_t0q171 : bs ≠ t0q171 := Nat.ne_of_lt (Nat.lt_of_lt_of_le lt171_bs st0q171)
  have ne_bq138_t0q171 : bq138 ≠ t0q171 := Nat.ne_of_lt (Nat.lt_of_lt_of_le lt171_bq138 st0q171)
  have ne_t0q138_t0q171 : t0q138 ≠ t0q171 := Nat.ne_of_lt (Nat.lt_of_lt_of_le lt171_t0q138 st0q171)
  have ne_t1q138_t0q171 : t1q138 ≠ t0q171 := Nat.ne_of_lt (Nat.lt_of_lt_of_le lt171_t1q138 st0q171)
  have ne_ao_t1q171 : ao ≠ t1q171 := Nat.ne_of_lt (Nat.lt_of_lt_of_le lt171_ao st1q171)
  have ne_ac_t1q171 : ac ≠ t1q171 := Nat.ne_of_lt (Nat.lt_of_lt_of_le lt171_ac st1q171)
  have ne_bs_t1q171 : bs ≠ t1q171 := Nat.ne_of_lt (Nat.lt_of_lt_of_le lt171_bs st1q171)
  have ne_bq138_t1q171 : bq138 ≠ t1q171 := Nat.ne_of_lt (Nat.lt_of_lt_of_le lt171_bq138 st1q171)
  have ne_t0q138_t1q171 : t0q138 ≠ t1q171 := Nat.ne_of_lt (Nat.lt_of_lt_of_le lt171_t0q138 st1q171)
  have ne_t1q138_t1q171 : t1q138 ≠ t1q171 := Nat.ne_of_lt (Nat.lt_of_lt_of_le lt171_t1q138 st1q171)
  have st185 : own_Go p e below (T171.setTop (mkF m 94 #[rv ao, .val .null, iv uf, rv ac, iv ut, iv ((((0 : Int32) + (1 : Int32)) + (1 : Int32)) + (1 : Int32))] [(.ref bq171), (.ref ao)])) B0 := fun t kt => st170 t (ls171 t kt)
  obtain ⟨T186, h186, X186, e186, W186, ls186⟩ := putF X171 hx hZ hown (host := "") (Or.inl (hw _ (List.mem_of_getElem? (i := 33) rfl))) Via.refl rfl f176 f178 (Or.inr ⟨(hw _ (List.mem_of_getElem? (i := 34) rfl)), rfl, hnm⟩) (hw _ (List.mem_of_getElem? (i := 9) rfl)) (ty := (.array (.array .int))) (by decide) rfl rfl (g := (mkF m 94 #[rv ao, .val .null, iv uf, rv ac, iv ut, iv ((((0 : Int32) + (1 : Int32)) + (1 : Int32)) + (1 : Int32))] [(.ref bq171), (.ref ao)])) rfl rfl (hb hby d3_94)
  have N186 := Fr.snoc X186 N171 g_ao
  have f187 := f172.other W186 (Or.inr (slot_ne (Or.inr (hw _ (List.mem_of_getElem? (i := 18) rfl))) (Or.inr (hw _ (List.mem_of_getElem? (i := 34) rfl))) (by decide) (t := (.array (.object "java/lang/String"))) (t' := (.array (.array .int))) (by decide) (by decide)))
  have f188 := f173.other W186 (Or.inr (slot_ne (Or.inr (hw _ (List.mem_of_getElem? (i := 20) rfl))) (Or.inr (hw _ (List.mem_of_getElem? (i := 34) rfl))) (by decide) (t := .int) (t' := (.array (.array .int))) (by decide) (by decide)))
  have f189 := f174.other W186 (Or.inr (slot_ne (Or.inr (hw _ (List.mem_of_getElem? (i := 22) rfl))) (Or.inr (hw _ (List.mem_of_getElem? (i := 34) rfl))) (by decide) (t := (.array .int)) (t' := (.array (.array .int))) (by decide) (by decide)))
  have f190 := f175.other W186 (Or.inr (slot_ne (Or.inr (hw _ (List.mem_of_getElem? (i := 32) rfl))) (Or.inr (hw _ (List.mem_of_getElem? (i := 34) rfl))) (by decide) (t := (.array (.array .int))) (t' := (.array (.array .int))) (by decide) (by decide)))
  have f191 := f176.same W186
  have f192 := f177.other W186 (Or.inr (slot_ne (Or.inr (hw _ (List.mem_of_getElem? (i := 45) rfl))) (Or.inr (hw _ (List.mem_of_getElem? (i := 34) rfl))) (by decide) (t := (.array .int)) (t' := (.array (.array .int))) (by decide) (by decide)))
  have f193 := f178.wr W186
  have f194 := f179.other W186 (Ne.symm ne_ao_ac)
  have f195 := f180.other W186 (Ne.symm ne_ao_bs)
  have f196 := f181.other W186 (Ne.symm ne_ao_bq138)
  have f197 := f182.other W186 (Ne.symm ne_ao_t0q138)
  have f198 := f183.other W186 (Ne.symm ne_ao_t1q138)
  have f199 := Aq171.other W186 (Ne.symm ne_ao_bq171)
  have f200 := At0q171.other W186 (Ne.symm ne_ao_t0q171)
  have f201 := At1q171.other W186 (Ne.symm ne_ao_t1q171)
  have z202 := Nat.le_trans z184 (Keep.of_wr W186).1
  have st203 : own_Go p e below (T186.setTop (mkF m 97 #[rv ao, .val .null, iv uf, rv ac, iv ut, iv ((((0 : Int32) + (1 : Int32)) + (1 : Int32)) + (1 : Int32))] [])) B0 := fun t kt => st185 t (ls186 t kt)
  have st204 : own_Go p e below (T186.setTop (mkF m 99 #[rv ao, .val .null, iv uf, rv ac, iv ut, iv ((((0 : Int32) + (1 : Int32)) + (1 : Int32)) + (1 : Int32))] [(.ref ao), (.ref ao)])) B0 := fun t kt => st203 t (by
    show own_At p e below T186 m 97 #[rv ao, .val .null, iv uf, rv ac, iv ut, iv ((((0 : Int32) + (1 : Int32)) + (1 : Int32)) + (1 : Int32))] [] _
    refine XS.aloadN X186.here hx rfl (hb hby d3_97) rfl rfl ?_
    show own_At p e below T186 m 98 #[rv ao, .val .null, iv uf, rv ac, iv ut, iv ((((0 : Int32) + (1 : Int32)) + (1 : Int32)) + (1 : Int32))] [(.ref ao)] _
    refine XS.aloadN X186.here hx rfl (hb hby d3_98) rfl rfl ?_
    show own_At p e below T186 m 99 #[rv ao, .val .null, iv uf, rv ac, iv ut, iv ((((0 : Int32) + (1 : Int32)) + (1 : Int32)) + (1 : Int32))] [(.ref ao), (.ref ao)] _
    exact kt)
  obtain ⟨T205, X205, e205, ls205⟩ := getF X186 hx hZ hown (host := "") (Or.inl (hw _ (List.mem_of_getElem? (i := 21) rfl))) Via.refl e186 f189 (g := (mkF m 99 #[rv ao, .val .null, iv uf, rv ac, iv ut, iv ((((0 : Int32) + (1 : Int32)) + (1 : Int32)) + (1 : Int32))] [(.ref ao), (.ref ao)])) rfl rfl (hb hby d3_99)
  have st206 : own_Go p e below (T205.setTop (mkF m 102 #[rv ao, .val .null, iv uf, rv ac, iv ut, iv ((((0 : Int32) + (1 : Int32)) + (1 : Int32)) + (1 : Int32))] [(.ref bs), (.ref ao)])) B0 := fun t kt => st204 t (ls205 t kt)
  have st207 : own_Go p e below (T205.setTop (mkF m 106 #[rv ao, .val .null, iv uf, rv ac, iv ut, iv ((((0 : Int32) + (1 : Int32)) + (1 : Int32)) + (1 : Int32))] [(.int (3 : Int32)), (.ref bs), (.ref ao)])) B0 := fun t kt => st206 t (by
    show own_At p e below T205 m 102 #[rv ao, .val .null, iv uf, rv ac, iv ut, iv ((((0 : Int32) + (1 : Int32)) + (1 : Int32)) + (1 : Int32))] [(.ref bs), (.ref ao)] _
    refine XS.iload X205.here hx rfl (hb hby d3_102) rfl ?_
    show own_At p e below T205 m 104 #[rv ao, .val .null, iv uf, rv ac, iv ut, iv ((((0 : Int32) + (1 : Int32)) + (1 : Int32)) + (1 : Int32))] [(.int ut), (.ref bs), (.ref ao)] _
    refine XS.iloadN X205.here hx rfl (hb hby d3_104) rfl ?_
    show own_At p e below T205 m 105 #[rv ao, .val .null, iv uf, rv ac, iv ut, iv ((((0 : Int32) + (1 : Int32)) + (1 : Int32)) + (1 : Int32))] [(.int uf), (.int ut), (.ref bs), (.ref ao)] _
    refine XS.isub X205.here hx rfl (hb hby d3_105) rfl ?_
    show own_At p e below T205 m 106 #[rv ao, .val .null, iv uf, rv ac, iv ut, iv ((((0 : Int32) + (1 : Int32)) + (1 : Int32)) + (1 : Int32))] [(.int (ut - uf)), (.ref bs), (.ref ao)] _
    rw [show (ut - uf) = (3 : Int32) from (ht)]
    show own_At p e below T205 m 106 #[rv ao, .val .null, iv uf, rv ac, iv ut, iv ((((0 : Int32) + (1 : Int32)) + (1 : Int32)) + (1 : Int32))] [(.int (3 : Int32)), (.ref bs), (.ref ao)] _
    exact kt)
  have lt208_ao := f187.lt
  have lt208_ac := f194.lt
  have lt208_bs := f195.lt
  have lt208_bq138 := f196.lt
  have lt208_t0q138 := f197.lt
  have lt208_t1q138 := f198.lt
  have lt208_bq171 := f199.lt
  have lt208_t0q171 := f200.lt
  have lt208_t1q171 := f201.lt
  obtain ⟨_, _, ⟨T208, L208, k208, n208⟩, -, X208, ⟨Lc208, hQ208, l208, y208, z208⟩, ls208⟩ := Jvm.LawKit.callS X205 hx (y := (⟨"java/util/Arrays", "copyOf", "([II)[I"⟩ : MethodName)) hown (mvT hZ (hw _ (List.mem_of_getElem? (i := 35) rfl))) (mvT hZ (hw _ (List.mem_of_getElem? (i := 36) rfl))) (mvT hZ (hw _ (List.mem_of_getElem? (i := 37) rfl))) (mvT hZ (hw _ (List.mem_of_getElem? (i := 38) rfl))) (by decide) (backOf (W := 1) (rm_copyOf l Z a0 hw [] bs ((3 : Int32)) 4 ((own_st 16383 16385 16386)) 3 h186 n0 z202 f195 (by decide) (by decide) (by decide) (by decide)) hZ (hw _ (List.mem_of_getElem? (i := 38) rfl)) (hw _ (List.mem_of_getElem? (i := 37) rfl)) (by decide) (by decide)) (g := (mkF m 106 #[rv ao, .val .null, iv uf, rv ac, iv ut, iv ((((0 : Int32) + (1 : Int32)) + (1 : Int32)) + (1 : Int32))] [(.int (3 : Int32)), (.ref bs), (.ref ao)])) rfl (by rw [hml]; rfl) (argsL := [(.ref bs), (.int (3 : Int32))]) (rest := [(.ref ao)]) (lenOf own_pd2 rfl) rfl (by show 2 * 0 + _ ≤ _; exact Nat.le_of_eq rfl) (hb hby d3_106) (fun _ _ => ⟨rfl, e205, (by decide : 7 + 1 ≤ _), (by decide : 32780 + 16 ≤ _)⟩)
  dsimp only [Pt.U, Pt.locs, Pt.cells, Pt.slots] at X208 l208 y208 z208 ls208 hQ208
  subst l208 y208 z208
  obtain ⟨bq208, rfl, Nq208, Kq208, g_bq208, sq208, Aq208⟩ := hQ208
  have N208 := Fr.app N186 Nq208
  have f209 := f187.keep Kq208 nin0
  have f210 := f188.keep Kq208 nin0
  have f211 := f189.keep Kq208 nin0
  have f212 := f190.keep Kq208 nin0
  have f213 := f191.keep Kq208 nin0
  have f214 := f192.keep Kq208 nin0
  have f215 := f193.keep Kq208
  have f216 := f194.keep Kq208 nin0
  have f217 := f195.keep Kq208 nin0
  have f218 := f196.keep Kq208 nin0
  have f219 := f197.keep Kq208 nin0
  have f220 := f198.keep Kq208 nin0
  have f221 := f199.keep Kq208 nin0
  have f222 := f200.keep Kq208 nin0
  have f223 := f201.keep Kq208 nin0
  have z224 := Nat.le_trans z202 Kq208.1
  have ne_ao_bq208 : ao ≠ bq208 := Nat.ne_of_lt (Nat.lt_of_lt_of_le lt208_ao sq208)
  have ne_ac_bq208 : ac ≠ bq208 := Nat.ne_of_lt (Nat.lt_of_lt_of_le lt208_ac sq208)
  have ne_bs_bq208 : bs ≠ bq208 := Nat.ne_of_lt (Nat.lt_of_lt_of_le lt208_bs sq208)
  have ne_bq138_bq208 : bq138 ≠ bq208 := Nat.ne_of_lt (Nat.lt_of_lt_of_le lt208_bq138 sq208)
  have ne_t0q138_bq208 : t0q138 ≠ bq208 := Nat.ne_of_lt (Nat.lt_of_lt_of_le lt208_t0q138 sq208)
  have ne_t1q138_bq208 : t1q138 ≠ bq208 := Nat.ne_of_lt (Nat.lt_of_lt_of_le lt208_t1q138 sq208)
  have ne_bq171_bq208 : bq171 ≠ bq208 := Nat.ne_of_lt (Nat.lt_of_lt_of_le lt208_bq171 sq208)
  have ne_t0q171_bq208 : t0q171 ≠ bq208 := Nat.ne_of_lt (Nat.lt_of_lt_of_le lt208_t0q171 sq208)
  have ne_t1q171_bq208 : t1q171 ≠ bq208 := Nat.ne_of_lt (Nat.lt_of_lt_of_le lt208_t1q171 sq208)
  have st225 : own_Go p e below (T208.setTop (mkF m 109 #[rv ao, .val .null, iv uf, rv ac, iv ut, iv ((((0 : Int32) + (1 : Int32)) + (1 : Int32)) + (1 : Int32))] [(.ref bq208), (.ref ao)])) B0 := fun t kt => st207 t (ls208 t kt)
  obtain ⟨T226, h226, X226, e226, W226, ls226⟩ := putF X208 hx hZ hown (host := "") (Or.inl (hw _ (List.mem_of_getElem? (i := 44) rfl))) Via.refl rfl f214 f215 (Or.inr ⟨(hw _ (List.mem_of_getElem? (i := 45) rfl)), rfl, hnm⟩) (hw _ (List.mem_of_getElem? (i := 9) rfl)) (ty := (.array .int)) (by decide) rfl rfl (g := (mkF m 109 #[rv ao, .val .null, iv uf, rv ac, iv ut, iv ((((0 : Int32) + (1 : Int32)) + (1 : Int32)) + (1 : Int32))] [(.ref bq208), (.ref ao)])) rfl rfl (hb hby d3_109)
  have N226 := Fr.snoc X226 N208 g_ao
  have f227 := f209.other W226 (Or.inr (slot_ne (Or.inr (hw _ (List.mem_of_getElem? (i := 18) rfl))) (Or.inr (hw _ (List.mem_of_getElem? (i := 45) rfl))) (by decide) (t := (.array (.object "java/lang/String"))) (t' := (.array .int)) (by decide) (by decide)))
  have f228 := f210.other W226 (Or.inr (slot_ne (Or.inr (hw _ (List.mem_of_getElem? (i := 20) rfl))) (Or.inr (hw _ (List.mem_of_getElem? (i := 45) rfl))) (by decide) (t := .int) (t' := (.array .int)) (by decide) (by decide)))
  have f229 := f211.other W226 (Or.inr (slot_ne (Or.inr (hw _ (List.mem_of_getElem? (i := 22) rfl))) (Or.inr (hw _ (List.mem_of_getElem? (i := 45) rfl))) (by decide) (t := (.array .int)) (t' := (.array .int)) (by decide) (by decide)))
  have f230 := f212.other W226 (Or.inr (slot_ne (Or.inr (hw _ (List.mem_of_getElem? (i := 32) rfl))) (Or.inr (hw _ (List.mem_of_getElem? (i := 45) rfl))) (by decide) (t := (.array (.array .int))) (t' := (.array .int)) (by decide) (by decide)))
  have f231 := f213.other W226 (Or.inr (slot_ne (Or.inr (hw _ (List.mem_of_getElem? (i := 34) rfl))) (Or.inr (hw _ (List.mem_of_getElem? (i := 45) rfl))) (by decide) (t := (.array (.array .int))) (t' := (.array .int)) (by decide) (by decide)))
  have f232 := f214.same W226
  have f233 := f215.wr W226
  have f234 := f216.other W226 (Ne.symm ne_ao_ac)
  have f235 := f217.other W226 (Ne.symm ne_ao_bs)
  have f236 := f218.other W226 (Ne.symm ne_ao_bq138)
  have f237 := f219.other W226 (Ne.symm ne_ao_t0q138)
  have f238 := f220.other W226 (Ne.symm ne_ao_t1q138)
  have f239 := f221.other W226 (Ne.symm ne_ao_bq171)
  have f240 := f222.other W226 (Ne.symm ne_ao_t0q171)
  have f241 := f223.other W226 (Ne.symm ne_ao_t1q171)
  have f242 := Aq208.other W226 (Ne.symm ne_ao_bq208)
  have z243 := Nat.le_trans z224 (Keep.of_wr W226).1
  have st244 : own_Go p e below (T226.setTop (mkF m 112 #[rv ao, .val .null, iv uf, rv ac, iv ut, iv ((((0 : Int32) + (1 : Int32)) + (1 : Int32)) + (1 : Int32))] [])) B0 := fun t kt => st225 t (ls226 t kt)
  obtain ⟨fs, hr, hrun, hended, hW, hsame⟩ := X226.leave (v := none) (fun _ => rfl)
  subst hB0
  refine ⟨_, _, st244 _ ?_, hrun, hended, _, _, rfl, ?_, ⟨_, rfl⟩, hW, hsame.mono (by decide) (by decide)⟩
  · exact X226.returnOut hx Bd.returns (hb hby d3_112) hr
  · show Q_rm_init16386 Z ao uf ac ut fc h0 n0 _ T226.heap _
    rw [e226]
    exact ⟨rfl, N226, z243, f233, f228, bs, bq208, bq138, bq171, t0q138, t1q138, t0q171, t1q171, by
      intro x hx
      simp only [List.mem_cons, List.not_mem_nil, or_false] at hx
      rcases hx with rfl | rfl | rfl | rfl | rfl | rfl | rfl | rfl | rfl
      · exact g_ao
      · exact g_bs
      · exact g_bq208
      · exact g_bq138
      · exact g_bq171
      · exact g_t0q138
      · exact g_t1q138
      · exact g_t0q171
      · exact g_t1q171, by simp [ne_ao_bs, ne_ao_bq208, ne_ao_bq138, ne_ao_bq171, ne_ao_t0q138, ne_ao_t1q138, ne_ao_t0q171, ne_ao_t1q171, ne_bs_bq208, ne_bs_bq138, ne_bs_bq171, ne_bs_t0q138, ne_bs_t1q138, ne_bs_t0q171, ne_bs_t1q171, (Ne.symm ne_bq138_bq208), (Ne.symm ne_bq171_bq208), (Ne.symm ne_t0q138_bq208), (Ne.symm ne_t1q138_bq208), (Ne.symm ne_t0q171_bq208), (Ne.symm ne_t1q171_bq208), ne_bq138_bq171, ne_bq138_t0q138, ne_bq138_t1q138, ne_bq138_t0q171, ne_bq138_t1q171, (Ne.symm ne_t0q138_bq171), (Ne.symm ne_t1q138_bq171), ne_bq171_t0q171, ne_bq171_t1q171, ne_t0q138_t1q138, ne_t0q138_t0q171, ne_t0q138_t1q171, ne_t1q138_t0q171, ne_t1q138_t1q171, ne_t0q171_t1q171], f229, f232, f230, f231, f235, f242, f236, f237, f238, f239, f240, f241⟩
def Q_rm_add_1_1 (Z : State) (ao : Addr) (ut : Int32) (ud : Int32) (uq : Int32) (uf : Int32) (nx : Nat → Int32) (T : Nat → Int32) (F : Nat → Int32) (h0 : Heap) (n0 : Nat) (v : Option Value) (h : Heap) (L : List Loc) : Prop := v = none ∧ Fr n0 L ∧ n0 ≤ h.size ∧ own_VS Z h n0 ao uf (fun q => if q = 1 then 2 else nx q) (fun q => if q = 1 then ut else T q) (fun q => if q = 1 then uq else F q)
set_option maxRecDepth 65536 in
set_option maxHeartbeats 40000000 in
theorem rm_add_1_1 (l : Launch) (Z : State) (a0 : Array Value) (hw : ∀ d ∈ tables_1, d.before a0 Z = true) (ws : List Jvm.Cond) (ao : Addr) (ut : Int32) (ud : Int32) (uq : Int32) (uf : Int32) (nx : Nat → Int32) (T : Nat → Int32) (F : Nat → Int32) (h0 : Heap) (n0 : Nat) (Z0 : n0 ≤ h0.size) (V : own_VS Z h0 n0 ao uf nx T F) (hd : ud - uf = 1) (hnx : nx 1 = 1) :
    MetFree l (⟨"com/example/ranked_text_search/rankedtextsearch/MemoryTermVectors", "add", "(III)V"⟩ : MethodName) (head1 (Jvm.Cond.code (⟨"com/example/ranked_text_search/rankedtextsearch/MemoryTermVectors", "add", "(III)V"⟩ : MethodName) prog_50_method_4_code 5 none :: ws) ({ frames := 0, cells := 0, slots := 0, locals := 0 } : Room)) (fun a U => a = #[(.ref ao), (.int ut), (.int ud), (.int uq)] ∧ Z.Warmed39 U.vm ∧ U.heap = h0) (fun _ _ _ _ _ => True) (fun _ U o U' => ∃ v L, o = .returned v ∧ Q_rm_add_1_1 Z ao ut ud uq uf nx T F h0 n0 v U'.heap L ∧ FrameEnd U o U' L ({ frames := 0, cells := 0, slots := 0, locals := 0 } : Room).cells ({ frames := 0, cells := 0, slots := 0, locals := 0 } : Room).slots) := by
  refine MetFree.of_bodySF (plainFor_of_name own_pn2) hisR ?_
  intro p e s m args below meth c s₁ Bd hml0 hP hK
  obtain ⟨rfl, hZ, hh⟩ := hP
  have hx := Bd.exec
  have hby := Bd.bytes
  have hml : c.maxLocals = 5 := hml0
  have hown : s.vm.findClass "com/example/ranked_text_search/rankedtextsearch/MemoryTermVectors" = some m.cls := findClass_of_methodNamed Bd.named
  have hnm := (name_of_methodNamed Bd.named Bd.method).1
  have X0 : Stand p l e ({ frames := 0, cells := 0, slots := 0, locals := 0 } : Room) s m #[(.ref ao), (.int ut), (.int ud), (.int uq)] below meth c s₁ [] 0 0 := Stand.of_body Bd
  have e0 : s₁.heap = h0 := by rw [← hh, Bd.state]; rfl
  have N0 := Fr.nil n0
  obtain ⟨B0, hB0⟩ : ∃ B, B = (s₁.setTop (entryFrame m #[(.ref ao), (.int ut), (.int ud), (.int uq)] 5)) := ⟨_, rfl⟩
  have st0 : own_Go p e below (s₁.setTop (mkF m 0 #[rv ao, iv ut, iv ud, iv uq, .unset] [])) B0 := fun t k => hB0 ▸ castTop (own_ef7_RIII m ao ut ud uq) k
  obtain ⟨E_ao, F_from, bs, bn, bt, bf, t0, f0, hge, nd, F_starts, F_next, F_tn, F_fq, A_bs, A_bn, A_bt, A_t0, A_bf, A_f0⟩ := V
  have g_ao := hge ao (List.mem_of_getElem? (i := 0) rfl)
  have ne_ao_bs := own_nd nd 0 1 rfl rfl (by decide)
  have ne_ao_bn := own_nd nd 0 2 rfl rfl (by decide)
  have ne_ao_bt := own_nd nd 0 3 rfl rfl (by decide)
  have ne_ao_bf := own_nd nd 0 4 rfl rfl (by decide)
  have ne_ao_t0 := own_nd nd 0 5 rfl rfl (by decide)
  have ne_ao_f0 := own_nd nd 0 6 rfl rfl (by decide)
  have g_bs := hge bs (List.mem_of_getElem? (i := 1) rfl)
  have ne_bs_bn := own_nd nd 1 2 rfl rfl (by decide)
  have ne_bs_bt := own_nd nd 1 3 rfl rfl (by decide)
  have ne_bs_bf := own_nd nd 1 4 rfl rfl (by decide)
  have ne_bs_t0 := own_nd nd 1 5 rfl rfl (by decide)
  have ne_bs_f0 := own_nd nd 1 6 rfl rfl (by decide)
  have g_bn := hge bn (List.mem_of_getElem? (i := 2) rfl)
  have ne_bn_bt := own_nd nd 2 3 rfl rfl (by decide)
  have ne_bn_bf := own_nd nd 2 4 rfl rfl (by decide)
  have ne_bn_t0 := own_nd nd 2 5 rfl rfl (by decide)
  have ne_bn_f0 := own_nd nd 2 6 rfl rfl (by decide)
  have g_bt := hge bt (List.mem_of_getElem? (i := 3) rfl)
  have ne_bt_bf := own_nd nd 3 4 rfl rfl (by decide)
  have ne_bt_t0 := own_nd nd 3 5 rfl rfl (by decide)
  have ne_bt_f0 := own_nd nd 3 6 rfl rfl (by decide)
  have g_bf := hge bf (List.mem_of_getElem? (i := 4) rfl)
  have ne_bf_t0 := own_nd nd 4 5 rfl rfl (by decide)
  have ne_bf_f0 := own_nd nd 4 6 rfl rfl (by decide)
  have g_t0 := hge t0 (List.mem_of_getElem? (i := 5) rfl)
  have ne_t0_f0 := own_nd nd 5 6 rfl rfl (by decide)
  have g_f0 := hge f0 (List.mem_of_getElem? (i := 6) rfl)
  have st1 : own_Go p e below (s₁.setTop (mkF m 1 #[rv ao, iv ut, iv ud, iv uq, .unset] [(.ref ao)])) B0 := fun t kt => st0 t (by
    show own_At p e below s₁ m 0 #[rv ao, iv ut, iv ud, iv uq, .unset] [] _
    refine XS.aloadN X0.here hx rfl (hb hby d7_0) rfl rfl ?_
    show own_At p e below s₁ m 1 #[rv ao, iv ut, iv ud, iv uq, .unset] [(.ref ao)] _
    exact kt)
  obtain ⟨T2, X2, e2, ls2⟩ := getF X0 hx hZ hown (host := "") (Or.inl (hw _ (List.mem_of_getElem? (i := 44) rfl))) Via.refl e0 F_next (g := (mkF m 1 #[rv ao, iv ut, iv ud, iv uq, .unset] [(.ref ao)])) rfl rfl (hb hby d7_1)
  have st3 : own_Go p e below (T2.setTop (mkF m 4 #[rv ao, iv ut, iv ud, iv uq, .unset] [(.ref bn)])) B0 := fun t kt => st1 t (ls2 t kt)
  have st4 : own_Go p e below (T2.setTop (mkF m 6 #[rv ao, iv ut, iv ud, iv uq, .unset] [(.ref ao), (.int ud), (.ref bn)])) B0 := fun t kt => st3 t (by
    show own_At p e below T2 m 4 #[rv ao, iv ut, iv ud, iv uq, .unset] [(.ref bn)] _
    refine XS.iloadN X2.here hx rfl (hb hby d7_4) rfl ?_
    show own_At p e below T2 m 5 #[rv ao, iv ut, iv ud, iv uq, .unset] [(.int ud), (.ref bn)] _
    refine XS.aloadN X2.here hx rfl (hb hby d7_5) rfl rfl ?_
    show own_At p e below T2 m 6 #[rv ao, iv ut, iv ud, iv uq, .unset] [(.ref ao), (.int ud), (.ref bn)] _
    exact kt)
  obtain ⟨T5, X5, e5, ls5⟩ := getF X2 hx hZ hown (host := "") (Or.inl (hw _ (List.mem_of_getElem? (i := 19) rfl))) Via.refl e2 F_from (g := (mkF m 6 #[rv ao, iv ut, iv ud, iv uq, .unset] [(.ref ao), (.int ud), (.ref bn)])) rfl rfl (hb hby d7_6)
  have st6 : own_Go p e below (T5.setTop (mkF m 9 #[rv ao, iv ut, iv ud, iv uq, .unset] [(.int uf), (.int ud), (.ref bn)])) B0 := fun t kt => st4 t (ls5 t kt)
  have st7 : own_Go p e below (T5.setTop (mkF m 11 #[rv ao, iv ut, iv ud, iv uq, .unset] [(.int (ud - uf)), (.ref bn), (.int (ud - uf)), (.ref bn)])) B0 := fun t kt => st6 t (by
    show own_At p e below T5 m 9 #[rv ao, iv ut, iv ud, iv uq, .unset] [(.int uf), (.int ud), (.ref bn)] _
    refine XS.isub X5.here hx rfl (hb hby d7_9) rfl ?_
    show own_At p e below T5 m 10 #[rv ao, iv ut, iv ud, iv uq, .unset] [(.int (ud - uf)), (.ref bn)] _
    jvm_step X5.here [X5.here.top, hx, (hb hby d7_10), Value.category]
    show own_At p e below T5 m 11 #[rv ao, iv ut, iv ud, iv uq, .unset] [(.int (ud - uf)), (.ref bn), (.int (ud - uf)), (.ref bn)] _
    exact kt)
  have ls8 := own_iaload X5 hx hZ e5 A_bn (j := (ud - uf)) (i := 1) (by rw [hd]; decide) (by rw [hd]; decide) (by decide) (v := (.int (1 : Int32))) (congrArg Value.int hnx) (g := (mkF m 11 #[rv ao, iv ut, iv ud, iv uq, .unset] [(.int (ud - uf)), (.ref bn), (.int (ud - uf)), (.ref bn)])) rfl rfl (hb hby d7_11)
  have st9 : own_Go p e below (T5.setTop (mkF m 12 #[rv ao, iv ut, iv ud, iv uq, .unset] [(.int (1 : Int32)), (.int (ud - uf)), (.ref bn)])) B0 := fun t kt => st7 t (ls8 t kt)
  have st10 : own_Go p e below (T5.setTop (mkF m 15 #[rv ao, iv ut, iv ud, iv uq, .unset] [(.int (2 : Int32)), (.int (ud - uf)), (.ref bn), (.int (1 : Int32))])) B0 := fun t kt => st9 t (by
    show own_At p e below T5 m 12 #[rv ao, iv ut, iv ud, iv uq, .unset] [(.int (1 : Int32)), (.int (ud - uf)), (.ref bn)] _
    jvm_step X5.here [X5.here.top, hx, (hb hby d7_12), Value.category]
    show own_At p e below T5 m 13 #[rv ao, iv ut, iv ud, iv uq, .unset] [(.int (1 : Int32)), (.int (ud - uf)), (.ref bn), (.int (1 : Int32))] _
    refine XS.iconst X5.here hx rfl (hb hby d7_13) ?_
    show own_At p e below T5 m 14 #[rv ao, iv ut, iv ud, iv uq, .unset] [(.int (1 : Int32)), (.int (1 : Int32)), (.int (ud - uf)), (.ref bn), (.int (1 : Int32))] _
    refine XS.iadd X5.here hx rfl (hb hby d7_14) rfl ?_
    show own_At p e below T5 m 15 #[rv ao, iv ut, iv ud, iv uq, .unset] [(.int ((1 : Int32) + (1 : Int32))), (.int (ud - uf)), (.ref bn), (.int (1 : Int32))] _
    rw [show ((1 : Int32) + (1 : Int32)) = (2 : Int32) from (by decide +kernel)]
    show own_At p e below T5 m 15 #[rv ao, iv ut, iv ud, iv uq, .unset] [(.int (2 : Int32)), (.int (ud - uf)), (.ref bn), (.int (1 : Int32))] _
    exact kt)
  obtain ⟨T11, h11, X11, e11, W11, B11, ls11⟩ := own_iastore X5 hx hZ e5 A_bn (j := (ud - uf)) (i := 1) (by rw [hd]; decide) (by rw [hd]; decide) (by decide) (g := (mkF m 15 #[rv ao, iv ut, iv ud, iv uq, .unset] [(.int (2 : Int32)), (.int (ud - uf)), (.ref bn), (.int (1 : Int32))])) rfl rfl (hb hby d7_15)
  have N11 := Fr.snoc X11 N0 g_bn
  have f12 := E_ao.wr W11
  have f13 := F_from.other W11 (Or.inl ne_ao_bn)
  have f14 := F_starts.other W11 (Or.inl ne_ao_bn)
  have f15 := F_next.other W11 (Or.inl ne_ao_bn)
  have f16 := F_tn.other W11 (Or.inl ne_ao_bn)
  have f17 := F_fq.other W11 (Or.inl ne_ao_bn)
  have f18 := A_bs.other W11 ne_bs_bn
  have f19 := A_bt.other W11 (Ne.symm ne_bn_bt)
  have f20 := A_bf.other W11 (Ne.symm ne_bn_bf)
  have f21 := A_t0.other W11 (Ne.symm ne_bn_t0)
  have f22 := A_f0.other W11 (Ne.symm ne_bn_f0)
  have z23 := Nat.le_trans Z0 (Keep.of_wr W11).1
  have f24 := B11.congr (g := (fun q => .int ((fun q => if q = 1 then 2 else nx q) q))) (fun q _ => by by_cases z : q = 1 <;> simp [z])
  have st25 : own_Go p e below (T11.setTop (mkF m 16 #[rv ao, iv ut, iv ud, iv uq, .unset] [(.int (1 : Int32))])) B0 := fun t kt => st10 t (ls11 t kt)
  have st26 : own_Go p e below (T11.setTop (mkF m 19 #[rv ao, iv ut, iv ud, iv uq, iv (1 : Int32)] [(.ref ao)])) B0 := fun t kt => st25 t (by
    show own_At p e below T11 m 16 #[rv ao, iv ut, iv ud, iv uq, .unset] [(.int (1 : Int32))] _
    refine XS.istore X11.here hx rfl (hb hby d7_16) rfl (l' := #[rv ao, iv ut, iv ud, iv uq, iv (1 : Int32)]) rfl ?_
    show own_At p e below T11 m 18 #[rv ao, iv ut, iv ud, iv uq, iv (1 : Int32)] [] _
    refine XS.aloadN X11.here hx rfl (hb hby d7_18) rfl rfl ?_
    show own_At p e below T11 m 19 #[rv ao, iv ut, iv ud, iv uq, iv (1 : Int32)] [(.ref ao)] _
    exact kt)
  obtain ⟨T27, X27, e27, ls27⟩ := getF X11 hx hZ hown (host := "") (Or.inl (hw _ (List.mem_of_getElem? (i := 31) rfl))) Via.refl e11 f16 (g := (mkF m 19 #[rv ao, iv ut, iv ud, iv uq, iv (1 : Int32)] [(.ref ao)])) rfl rfl (hb hby d7_19)
  have st28 : own_Go p e below (T27.setTop (mkF m 22 #[rv ao, iv ut, iv ud, iv uq, iv (1 : Int32)] [(.ref bt)])) B0 := fun t kt => st26 t (ls27 t kt)
  have st29 : own_Go p e below (T27.setTop (mkF m 27 #[rv ao, iv ut, iv ud, iv uq, iv (1 : Int32)] [(.int (0 : Int32)), (.ref bt)])) B0 := fun t kt => st28 t (by
    show own_At p e below T27 m 22 #[rv ao, iv ut, iv ud, iv uq, iv (1 : Int32)] [(.ref bt)] _
    refine XS.iload X27.here hx rfl (hb hby d7_22) rfl ?_
    show own_At p e below T27 m 24 #[rv ao, iv ut, iv ud, iv uq, iv (1 : Int32)] [(.int (1 : Int32)), (.ref bt)] _
    refine XS.bipush X27.here hx rfl (hb hby d7_24) ?_
    show own_At p e below T27 m 26 #[rv ao, iv ut, iv ud, iv uq, iv (1 : Int32)] [(.int (14 : Int32)), (.int (1 : Int32)), (.ref bt)] _
    refine XS.iushr X27.here hx rfl (hb hby d7_26) rfl ?_
    show own_At p e below T27 m 27 #[rv ao, iv ut, iv ud, iv uq, iv (1 : Int32)] [(.int (((1 : Int32).toUInt32 >>> ((14 : Int32) &&& 31).toUInt32).toInt32)), (.ref bt)] _
    rw [show (((1 : Int32).toUInt32 >>> ((14 : Int32) &&& 31).toUInt32).toInt32) = (0 : Int32) from (by decide +kernel)]
    show own_At p e below T27 m 27 #[rv ao, iv ut, iv ud, iv uq, iv (1 : Int32)] [(.int (0 : Int32)), (.ref bt)] _
    exact kt)
  have ls30 := own_aaload (ty := (.array .int)) rfl X27 hx hZ e27 f19 (j := (0 : Int32)) (i := 0) (by decide) (by decide) (by decide) (v := (.ref t0)) (rfl) (g := (mkF m 27 #[rv ao, iv ut, iv ud, iv uq, iv (1 : Int32)] [(.int (0 : Int32)), (.ref bt)])) rfl rfl (hb hby d7_27)
  have st31 : own_Go p e below (T27.setTop (mkF m 28 #[rv ao, iv ut, iv ud, iv uq, iv (1 : Int32)] [(.ref t0)])) B0 := fun t kt => st29 t (ls30 t kt)
  have st32 : own_Go p e below (T27.setTop (mkF m 35 #[rv ao, iv ut, iv ud, iv uq, iv (1 : Int32)] [(.int ut), (.int (1 : Int32)), (.ref t0)])) B0 := fun t kt => st31 t (by
    show own_At p e below T27 m 28 #[rv ao, iv ut, iv ud, iv uq, iv (1 : Int32)] [(.ref t0)] _
    refine XS.iload X27.here hx rfl (hb hby d7_28) rfl ?_
    show own_At p e below T27 m 30 #[rv ao, iv ut, iv ud, iv uq, iv (1 : Int32)] [(.int (1 : Int32)), (.ref t0)] _
    refine XS.sipush X27.here hx rfl (hb hby d7_30) ?_
    show own_At p e below T27 m 33 #[rv ao, iv ut, iv ud, iv uq, iv (1 : Int32)] [(.int (16383 : Int32)), (.int (1 : Int32)), (.ref t0)] _
    refine XS.iand X27.here hx rfl (hb hby d7_33) rfl ?_
    show own_At p e below T27 m 34 #[rv ao, iv ut, iv ud, iv uq, iv (1 : Int32)] [(.int ((1 : Int32) &&& (16383 : Int32))), (.ref t0)] _
    rw [show ((1 : Int32) &&& (16383 : Int32)) = (1 : Int32) from (by decide +kernel)]
    show own_At p e below T27 m 34 #[rv ao, iv ut, iv ud, iv uq, iv (1 : Int32)] [(.int (1 : Int32)), (.ref t0)] _
    refine XS.iloadN X27.here hx rfl (hb hby d7_34) rfl ?_
    show own_At p e below T27 m 35 #[rv ao, iv ut, iv ud, iv uq, iv (1 : Int32)] [(.int ut), (.int (1 : Int32)), (.ref t0)] _
    exact kt)
  obtain ⟨T33, h33, X33, e33, W33, B33, ls33⟩ := own_iastore X27 hx hZ e27 f21 (j := (1 : Int32)) (i := 1) (by decide) (by decide) (by decide) (g := (mkF m 35 #[rv ao, iv ut, iv ud, iv uq, iv (1 : Int32)] [(.int ut), (.int (1 : Int32)), (.ref t0)])) rfl rfl (hb hby d7_35)
  have N33 := Fr.snoc X33 N11 g_t0
  have f34 := f12.wr W33
  have f35 := f13.other W33 (Or.inl ne_ao_t0)
  have f36 := f14.other W33 (Or.inl ne_ao_t0)
  have f37 := f15.other W33 (Or.inl ne_ao_t0)
  have f38 := f16.other W33 (Or.inl ne_ao_t0)
  have f39 := f17.other W33 (Or.inl ne_ao_t0)
  have f40 := f18.other W33 ne_bs_t0
  have f41 := f19.other W33 ne_bt_t0
  have f42 := f20.other W33 ne_bf_t0
  have f43 := f22.other W33 (Ne.symm ne_t0_f0)
  have f44 := f24.other W33 ne_bn_t0
  have z45 := Nat.le_trans z23 (Keep.of_wr W33).1
  have f46 := B33.congr (g := (fun q => .int ((fun q => if q = 1 then ut else T q) (q)))) (fun q hq => by
      by_cases z : q = 1
      · subst z; simp
      · have z2 : ¬ q = 1 := by omega
        simp [z, z2])
  have st47 : own_Go p e below (T33.setTop (mkF m 36 #[rv ao, iv ut, iv ud, iv uq, iv (1 : Int32)] [])) B0 := fun t kt => st32 t (ls33 t kt)
  have st48 : own_Go p e below (T33.setTop (mkF m 37 #[rv ao, iv ut, iv ud, iv uq, iv (1 : Int32)] [(.ref ao)])) B0 := fun t kt => st47 t (by
    show own_At p e below T33 m 36 #[rv ao, iv ut, iv ud, iv uq, iv (1 : Int32)] [] _
    refine XS.aloadN X33.here hx rfl (hb hby d7_36) rfl rfl ?_
    show own_At p e below T33 m 37 #[rv ao, iv ut, iv ud, iv uq, iv (1 : Int32)] [(.ref ao)] _
    exact kt)
  obtain ⟨T49, X49, e49, ls49⟩ := getF X33 hx hZ hown (host := "") (Or.inl (hw _ (List.mem_of_getElem? (i := 33) rfl))) Via.refl e33 f39 (g := (mkF m 37 #[rv ao, iv ut, iv ud, iv uq, iv (1 : Int32)] [(.ref ao)])) rfl rfl (hb hby d7_37)
  have st50 : own_Go p e below (T49.setTop (mkF m 40 #[rv ao, iv ut, iv ud, iv uq, iv (1 : Int32)] [(.ref bf)])) B0 := fun t kt => st48 t (ls49 t kt)
  have st51 : own_Go p e below (T49.setTop (mkF m 45 #[rv ao, iv ut, iv ud, iv uq, iv (1 : Int32)] [(.int (0 : Int32)), (.ref bf)])) B0 := fun t kt => st50 t (by
    show own_At p e below T49 m 40 #[rv ao, iv ut, iv ud, iv uq, iv (1 : Int32)] [(.ref bf)] _
    refine XS.iload X49.here hx rfl (hb hby d7_40) rfl ?_
    show own_At p e below T49 m 42 #[rv ao, iv ut, iv ud, iv uq, iv (1 : Int32)] [(.int (1 : Int32)), (.ref bf)] _
    refine XS.bipush X49.here hx rfl (hb hby d7_42) ?_
    show own_At p e below T49 m 44 #[rv ao, iv ut, iv ud, iv uq, iv (1 : Int32)] [(.int (14 : Int32)), (.int (1 : Int32)), (.ref bf)] _
    refine XS.iushr X49.here hx rfl (hb hby d7_44) rfl ?_
    show own_At p e below T49 m 45 #[rv ao, iv ut, iv ud, iv uq, iv (1 : Int32)] [(.int (((1 : Int32).toUInt32 >>> ((14 : Int32) &&& 31).toUInt32).toInt32)), (.ref bf)] _
    rw [show (((1 : Int32).toUInt32 >>> ((14 : Int32) &&& 31).toUInt32).toInt32) = (0 : Int32) from (by decide +kernel)]
    show own_At p e below T49 m 45 #[rv ao, iv ut, iv ud, iv uq, iv (1 : Int32)] [(.int (0 : Int32)), (.ref bf)] _
    exact kt)
  have ls52 := own_aaload (ty := (.array .int)) rfl X49 hx hZ e49 f42 (j := (0 : Int32)) (i := 0) (by decide) (by decide) (by decide) (v := (.ref f0)) (rfl) (g := (mkF m 45 #[rv ao, iv ut, iv ud, iv uq, iv (1 : Int32)] [(.int (0 : Int32)), (.ref bf)])) rfl rfl (hb hby d7_45)
  have st53 : own_Go p e below (T49.setTop (mkF m 46 #[rv ao, iv ut, iv ud, iv uq, iv (1 : Int32)] [(.ref f0)])) B0 := fun t kt => st51 t (ls52 t kt)
  have st54 : own_Go p e below (T49.setTop (mkF m 53 #[rv ao, iv ut, iv ud, iv uq, iv (1 : Int32)] [(.int uq), (.int (1 : Int32)), (.ref f0)])) B0 := fun t kt => st53 t (by
    show own_At p e below T49 m 46 #[rv ao, iv ut, iv ud, iv uq, iv (1 : Int32)] [(.ref f0)] _
    refine XS.iload X49.here hx rfl (hb hby d7_46) rfl ?_
    show own_At p e below T49 m 48 #[rv ao, iv ut, iv ud, iv uq, iv (1 : Int32)] [(.int (1 : Int32)), (.ref f0)] _
    refine XS.sipush X49.here hx rfl (hb hby d7_48) ?_
    show own_At p e below T49 m 51 #[rv ao, iv ut, iv ud, iv uq, iv (1 : Int32)] [(.int (16383 : Int32)), (.int (1 : Int32)), (.ref f0)] _
    refine XS.iand X49.here hx rfl (hb hby d7_51) rfl ?_
    show own_At p e below T49 m 52 #[rv ao, iv ut, iv ud, iv uq, iv (1 : Int32)] [(.int ((1 : Int32) &&& (16383 : Int32))), (.ref f0)] _
    rw [show ((1 : Int32) &&& (16383 : Int32)) = (1 : Int32) from (by decide +kernel)]
    show own_At p e below T49 m 52 #[rv ao, iv ut, iv ud, iv uq, iv (1 : Int32)] [(.int (1 : Int32)), (.ref f0)] _
    refine XS.iloadN X49.here hx rfl (hb hby d7_52) rfl ?_
    show own_At p e below T49 m 53 #[rv ao, iv ut, iv ud, iv uq, iv (1 : Int32)] [(.int uq), (.int (1 : Int32)), (.ref f0)] _
    exact kt)
  obtain ⟨T55, h55, X55, e55, W55, B55, ls55⟩ := own_iastore X49 hx hZ e49 f43 (j := (1 : Int32)) (i := 1) (by decide) (by decide) (by decide) (g := (mkF m 53 #[rv ao, iv ut, iv ud, iv uq, iv (1 : Int32)] [(.int uq), (.int (1 : Int32)), (.ref f0)])) rfl rfl (hb hby d7_53)
  have N55 := Fr.snoc X55 N33 g_f0
  have f56 := f34.wr W55
  have f57 := f35.other W55 (Or.inl ne_ao_f0)
  have f58 := f36.other W55 (Or.inl ne_ao_f0)
  have f59 := f37.other W55 (Or.inl ne_ao_f0)
  have f60 := f38.other W55 (Or.inl ne_ao_f0)
  have f61 := f39.other W55 (Or.inl ne_ao_f0)
  have f62 := f40.other W55 ne_bs_f0
  have f63 := f41.other W55 ne_bt_f0
  have f64 := f42.other W55 ne_bf_f0
  have f65 := f44.other W55 ne_bn_f0
  have f66 := f46.other W55 ne_t0_f0
  have z67 := Nat.le_trans z45 (Keep.of_wr W55).1
  have f68 := B55.congr (g := (fun q => .int ((fun q => if q = 1 then uq else F q) (q)))) (fun q hq => by
      by_cases z : q = 1
      · subst z; simp
      · have z2 : ¬ q = 1 := by omega
        simp [z, z2])
  have st69 : own_Go p e below (T55.setTop (mkF m 54 #[rv ao, iv ut, iv ud, iv uq, iv (1 : Int32)] [])) B0 := fun t kt => st54 t (ls55 t kt)
  obtain ⟨fs, hr, hrun, hended, hW, hsame⟩ := X55.leave (v := none) (fun _ => rfl)
  subst hB0
  refine ⟨_, _, st69 _ ?_, hrun, hended, _, _, rfl, ?_, ⟨_, rfl⟩, hW, hsame.mono (by decide) (by decide)⟩
  · exact X55.returnOut hx Bd.returns (hb hby d7_54) hr
  · show Q_rm_add_1_1 Z ao ut ud uq uf nx T F h0 n0 _ T55.heap _
    rw [e55]
    exact ⟨rfl, N55, z67, f56, f57, bs, bn, bt, bf, t0, f0, hge, nd, f58, f59, f60, f61, f62, f65, f63, f66, f64, f68⟩
def Q_rm_add_1_2 (Z : State) (ao : Addr) (ut : Int32) (ud : Int32) (uq : Int32) (uf : Int32) (nx : Nat → Int32) (T : Nat → Int32) (F : Nat → Int32) (h0 : Heap) (n0 : Nat) (v : Option Value) (h : Heap) (L : List Loc) : Prop := v = none ∧ Fr n0 L ∧ n0 ≤ h.size ∧ own_VS Z h n0 ao uf (fun q => if q = 1 then 3 else nx q) (fun q => if q = 2 then ut else T q) (fun q => if q = 2 then uq else F q)
set_option maxRecDepth 65536 in
set_option maxHeartbeats 40000000 in
theorem rm_add_1_2 (l : Launch) (Z : State) (a0 : Array Value) (hw : ∀ d ∈ tables_1, d.before a0 Z = true) (ws : List Jvm.Cond) (ao : Addr) (ut : Int32) (ud : Int32) (uq : Int32) (uf : Int32) (nx : Nat → Int32) (T : Nat → Int32) (F : Nat → Int32) (h0 : Heap) (n0 : Nat) (Z0 : n0 ≤ h0.size) (V : own_VS Z h0 n0 ao uf nx T F) (hd : ud - uf = 1) (hnx : nx 1 = 2) :
    MetFree l (⟨"com/example/ranked_text_search/rankedtextsearch/MemoryTermVectors", "add", "(III)V"⟩ : MethodName) (head1 (Jvm.Cond.code (⟨"com/example/ranked_text_search/rankedtextsearch/MemoryTermVectors", "add", "(III)V"⟩ : MethodName) prog_50_method_4_code 5 none :: ws) ({ frames := 0, cells := 0, slots := 0, locals := 0 } : Room)) (fun a U => a = #[(.ref ao), (.int ut), (.int ud), (.int uq)] ∧ Z.Warmed39 U.vm ∧ U.heap = h0) (fun _ _ _ _ _ => True) (fun _ U o U' => ∃ v L, o = .returned v ∧ Q_rm_add_1_2 Z ao ut ud uq uf nx T F h0 n0 v U'.heap L ∧ FrameEnd U o U' L ({ frames := 0, cells := 0, slots := 0, locals := 0 } : Room).cells ({ frames := 0, cells := 0, slots := 0, locals := 0 } : Room).slots) := by
  refine MetFree.of_bodySF (plainFor_of_name own_pn2) hisR ?_
  intro p e s m args below meth c s₁ Bd hml0 hP hK
  obtain ⟨rfl, hZ, hh⟩ := hP
  have hx := Bd.exec
  have hby := Bd.bytes
  have hml : c.maxLocals = 5 := hml0
  have hown : s.vm.findClass "com/example/ranked_text_search/rankedtextsearch/MemoryTermVectors" = some m.cls := findClass_of_methodNamed Bd.named
  have hnm := (name_of_methodNamed Bd.named Bd.method).1
  have X0 : Stand p l e ({ frames := 0, cells := 0, slots := 0, locals := 0 } : Room) s m #[(.ref ao), (.int ut), (.int ud), (.int uq)] below meth c s₁ [] 0 0 := Stand.of_body Bd
  have e0 : s₁.heap = h0 := by rw [← hh, Bd.state]; rfl
  have N0 := Fr.nil n0
  obtain ⟨B0, hB0⟩ : ∃ B, B = (s₁.setTop (entryFrame m #[(.ref ao), (.int ut), (.int ud), (.int uq)] 5)) := ⟨_, rfl⟩
  have st0 : own_Go p e below (s₁.setTop (mkF m 0 #[rv ao, iv ut, iv ud, iv uq, .unset] [])) B0 := fun t k => hB0 ▸ castTop (own_ef7_RIII m ao ut ud uq) k
  obtain ⟨E_ao, F_from, bs, bn, bt, bf, t0, f0, hge, nd, F_starts, F_next, F_tn, F_fq, A_bs, A_bn, A_bt, A_t0, A_bf, A_f0⟩ := V
  have g_ao := hge ao (List.mem_of_getElem? (i := 0) rfl)
  have ne_ao_bs := own_nd nd 0 1 rfl rfl (by decide)
  have ne_ao_bn := own_nd nd 0 2 rfl rfl (by decide)
  have ne_ao_bt := own_nd nd 0 3 rfl rfl (by decide)
  have ne_ao_bf := own_nd nd 0 4 rfl rfl (by decide)
  have ne_ao_t0 := own_nd nd 0 5 rfl rfl (by decide)
  have ne_ao_f0 := own_nd nd 0 6 rfl rfl (by decide)
  have g_bs := hge bs (List.mem_of_getElem? (i := 1) rfl)
  have ne_bs_bn := own_nd nd 1 2 rfl rfl (by decide)
  have ne_bs_bt := own_nd nd 1 3 rfl rfl (by decide)
  have ne_bs_bf := own_nd nd 1 4 rfl rfl (by decide)
  have ne_bs_t0 := own_nd nd 1 5 rfl rfl (by decide)
  have ne_bs_f0 := own_nd nd 1 6 rfl rfl (by decide)
  have g_bn := hge bn (List.mem_of_getElem? (i := 2) rfl)
  have ne_bn_bt := own_nd nd 2 3 rfl rfl (by decide)
  have ne_bn_bf := own_nd nd 2 4 rfl rfl (by decide)
  have ne_bn_t0 := own_nd nd 2 5 rfl rfl (by decide)
  have ne_bn_f0 := own_nd nd 2 6 rfl rfl (by decide)
  have g_bt := hge bt (List.mem_of_getElem? (i := 3) rfl)
  have ne_bt_bf := own_nd nd 3 4 rfl rfl (by decide)
  have ne_bt_t0 := own_nd nd 3 5 rfl rfl (by decide)
  have ne_bt_f0 := own_nd nd 3 6 rfl rfl (by decide)
  have g_bf := hge bf (List.mem_of_getElem? (i := 4) rfl)
  have ne_bf_t0 := own_nd nd 4 5 rfl rfl (by decide)
  have ne_bf_f0 := own_nd nd 4 6 rfl rfl (by decide)
  have g_t0 := hge t0 (List.mem_of_getElem? (i := 5) rfl)
  have ne_t0_f0 := own_nd nd 5 6 rfl rfl (by decide)
  have g_f0 := hge f0 (List.mem_of_getElem? (i := 6) rfl)
  have st1 : own_Go p e below (s₁.setTop (mkF m 1 #[rv ao, iv ut, iv ud, iv uq, .unset] [(.ref ao)])) B0 := fun t kt => st0 t (by
    show own_At p e below s₁ m 0 #[rv ao, iv ut, iv ud, iv uq, .unset] [] _
    refine XS.aloadN X0.here hx rfl (hb hby d7_0) rfl rfl ?_
    show own_At p e below s₁ m 1 #[rv ao, iv ut, iv ud, iv uq, .unset] [(.ref ao)] _
    exact kt)
  obtain ⟨T2, X2, e2, ls2⟩ := getF X0 hx hZ hown (host := "") (Or.inl (hw _ (List.mem_of_getElem? (i := 44) rfl))) Via.refl e0 F_next (g := (mkF m 1 #[rv ao, iv ut, iv ud, iv uq, .unset] [(.ref ao)])) rfl rfl (hb hby d7_1)
  have st3 : own_Go p e below (T2.setTop (mkF m 4 #[rv ao, iv ut, iv ud, iv uq, .unset] [(.ref bn)])) B0 := fun t kt => st1 t (ls2 t kt)
  have st4 : own_Go p e below (T2.setTop (mkF m 6 #[rv ao, iv ut, iv ud, iv uq, .unset] [(.ref ao), (.int ud), (.ref bn)])) B0 := fun t kt => st3 t (by
    show own_At p e below T2 m 4 #[rv ao, iv ut, iv ud, iv uq, .unset] [(.ref bn)] _
    refine XS.iloadN X2.here hx rfl (hb hby d7_4) rfl ?_
    show own_At p e below T2 m 5 #[rv ao, iv ut, iv ud, iv uq, .unset] [(.int ud), (.ref bn)] _
    refine XS.aloadN X2.here hx rfl (hb hby d7_5) rfl rfl ?_
    show own_At p e below T2 m 6 #[rv ao, iv ut, iv ud, iv uq, .unset] [(.ref ao), (.int ud), (.ref bn)] _
    exact kt)
  obtain ⟨T5, X5, e5, ls5⟩ := getF X2 hx hZ hown (host := "") (Or.inl (hw _ (List.mem_of_getElem? (i := 19) rfl))) Via.refl e2 F_from (g := (mkF m 6 #[rv ao, iv ut, iv ud, iv uq, .unset] [(.ref ao), (.int ud), (.ref bn)])) rfl rfl (hb hby d7_6)
  have st6 : own_Go p e below (T5.setTop (mkF m 9 #[rv ao, iv ut, iv ud, iv uq, .unset] [(.int uf), (.int ud), (.ref bn)])) B0 := fun t kt => st4 t (ls5 t kt)
  have st7 : own_Go p e below (T5.setTop (mkF m 11 #[rv ao, iv ut, iv ud, iv uq, .unset] [(.int (ud - uf)), (.ref bn), (.int (ud - uf)), (.ref bn)])) B0 := fun t kt => st6 t (by
    show own_At p e below T5 m 9 #[rv ao, iv ut, iv ud, iv uq, .unset] [(.int uf), (.int ud), (.ref bn)] _
    refine XS.isub X5.here hx rfl (hb hby d7_9) rfl ?_
    show own_At p e below T5 m 10 #[rv ao, iv ut, iv ud, iv uq, .unset] [(.int (ud - uf)), (.ref bn)] _
    jvm_step X5.here [X5.here.top, hx, (hb hby d7_10), Value.category]
    show own_At p e below T5 m 11 #[rv ao, iv ut, iv ud, iv uq, .unset] [(.int (ud - uf)), (.ref bn), (.int (ud - uf)), (.ref bn)] _
    exact kt)
  have ls8 := own_iaload X5 hx hZ e5 A_bn (j := (ud - uf)) (i := 1) (by rw [hd]; decide) (by rw [hd]; decide) (by decide) (v := (.int (2 : Int32))) (congrArg Value.int hnx) (g := (mkF m 11 #[rv ao, iv ut, iv ud, iv uq, .unset] [(.int (ud - uf)), (.ref bn), (.int (ud - uf)), (.ref bn)])) rfl rfl (hb hby d7_11)
  have st9 : own_Go p e below (T5.setTop (mkF m 12 #[rv ao, iv ut, iv ud, iv uq, .unset] [(.int (2 : Int32)), (.int (ud - uf)), (.ref bn)])) B0 := fun t kt => st7 t (ls8 t kt)
  have st10 : own_Go p e below (T5.setTop (mkF m 15 #[rv ao, iv ut, iv ud, iv uq, .unset] [(.int (3 : Int32)), (.int (ud - uf)), (.ref bn), (.int (2 : Int32))])) B0 := fun t kt => st9 t (by
    show own_At p e below T5 m 12 #[rv ao, iv ut, iv ud, iv uq, .unset] [(.int (2 : Int32)), (.int (ud - uf)), (.ref bn)] _
    jvm_step X5.here [X5.here.top, hx, (hb hby d7_12), Value.category]
    show own_At p e below T5 m 13 #[rv ao, iv ut, iv ud, iv uq, .unset] [(.int (2 : Int32)), (.int (ud - uf)), (.ref bn), (.int (2 : Int32))] _
    refine XS.iconst X5.here hx rfl (hb hby d7_13) ?_
    show own_At p e below T5 m 14 #[rv ao, iv ut, iv ud, iv uq, .unset] [(.int (1 : Int32)), (.int (2 : Int32)), (.int (ud - uf)), (.ref bn), (.int (2 : Int32))] _
    refine XS.iadd X5.here hx rfl (hb hby d7_14) rfl ?_
    show own_At p e below T5 m 15 #[rv ao, iv ut, iv ud, iv uq, .unset] [(.int ((2 : Int32) + (1 : Int32))), (.int (ud - uf)), (.ref bn), (.int (2 : Int32))] _
    rw [show ((2 : Int32) + (1 : Int32)) = (3 : Int32) from (by decide +kernel)]
    show own_At p e below T5 m 15 #[rv ao, iv ut, iv ud, iv uq, .unset] [(.int (3 : Int32)), (.int (ud - uf)), (.ref bn), (.int (2 : Int32))] _
    exact kt)
  obtain ⟨T11, h11, X11, e11, W11, B11, ls11⟩ := own_iastore X5 hx hZ e5 A_bn (j := (ud - uf)) (i := 1) (by rw [hd]; decide) (by rw [hd]; decide) (by decide) (g := (mkF m 15 #[rv ao, iv ut, iv ud, iv uq, .unset] [(.int (3 : Int32)), (.int (ud - uf)), (.ref bn), (.int (2 : Int32))])) rfl rfl (hb hby d7_15)
  have N11 := Fr.snoc X11 N0 g_bn
  have f12 := E_ao.wr W11
  have f13 := F_from.other W11 (Or.inl ne_ao_bn)
  have f14 := F_starts.other W11 (Or.inl ne_ao_bn)
  have f15 := F_next.other W11 (Or.inl ne_ao_bn)
  have f16 := F_tn.other W11 (Or.inl ne_ao_bn)
  have f17 := F_fq.other W11 (Or.inl ne_ao_bn)
  have f18 := A_bs.other W11 ne_bs_bn
  have f19 := A_bt.other W11 (Ne.symm ne_bn_bt)
  have f20 := A_bf.other W11 (Ne.symm ne_bn_bf)
  have f21 := A_t0.other W11 (Ne.symm ne_bn_t0)
  have f22 := A_f0.other W11 (Ne.symm ne_bn_f0)
  have z23 := Nat.le_trans Z0 (Keep.of_wr W11).1
  have f24 := B11.congr (g := (fun q => .int ((fun q => if q = 1 then 3 else nx q) q))) (fun q _ => by by_cases z : q = 1 <;> simp [z])
  have st25 : own_Go p e below (T11.setTop (mkF m 16 #[rv ao, iv ut, iv ud, iv uq, .unset] [(.int (2 : Int32))])) B0 := fun t kt => st10 t (ls11 t kt)
  have st26 : own_Go p e below (T11.setTop (mkF m 19 #[rv ao, iv ut, iv ud, iv uq, iv (2 : Int32)] [(.ref ao)])) B0 := fun t kt => st25 t (by
    show own_At p e below T11 m 16 #[rv ao, iv ut, iv ud, iv uq, .unset] [(.int (2 : Int32))] _
    refine XS.istore X11.here hx rfl (hb hby d7_16) rfl (l' := #[rv ao, iv ut, iv ud, iv uq, iv (2 : Int32)]) rfl ?_
    show own_At p e below T11 m 18 #[rv ao, iv ut, iv ud, iv uq, iv (2 : Int32)] [] _
    refine XS.aloadN X11.here hx rfl (hb hby d7_18) rfl rfl ?_
    show own_At p e below T11 m 19 #[rv ao, iv ut, iv ud, iv uq, iv (2 : Int32)] [(.ref ao)] _
    exact kt)
  obtain ⟨T27, X27, e27, ls27⟩ := getF X11 hx hZ hown (host := "") (Or.inl (hw _ (List.mem_of_getElem? (i := 31) rfl))) Via.refl e11 f16 (g := (mkF m 19 #[rv ao, iv ut, iv ud, iv uq, iv (2 : Int32)] [(.ref ao)])) rfl rfl (hb hby d7_19)
  have st28 : own_Go p e below (T27.setTop (mkF m 22 #[rv ao, iv ut, iv ud, iv uq, iv (2 : Int32)] [(.ref bt)])) B0 := fun t kt => st26 t (ls27 t kt)
  have st29 : own_Go p e below (T27.setTop (mkF m 27 #[rv ao, iv ut, iv ud, iv uq, iv (2 : Int32)] [(.int (0 : Int32)), (.ref bt)])) B0 := fun t kt => st28 t (by
    show own_At p e below T27 m 22 #[rv ao, iv ut, iv ud, iv uq, iv (2 : Int32)] [(.ref bt)] _
    refine XS.iload X27.here hx rfl (hb hby d7_22) rfl ?_
    show own_At p e below T27 m 24 #[rv ao, iv ut, iv ud, iv uq, iv (2 : Int32)] [(.int (2 : Int32)), (.ref bt)] _
    refine XS.bipush X27.here hx rfl (hb hby d7_24) ?_
    show own_At p e below T27 m 26 #[rv ao, iv ut, iv ud, iv uq, iv (2 : Int32)] [(.int (14 : Int32)), (.int (2 : Int32)), (.ref bt)] _
    refine XS.iushr X27.here hx rfl (hb hby d7_26) rfl ?_
    show own_At p e below T27 m 27 #[rv ao, iv ut, iv ud, iv uq, iv (2 : Int32)] [(.int (((2 : Int32).toUInt32 >>> ((14 : Int32) &&& 31).toUInt32).toInt32)), (.ref bt)] _
    rw [show (((2 : Int32).toUInt32 >>> ((14 : Int32) &&& 31).toUInt32).toInt32) = (0 : Int32) from (by decide +kernel)]
    show own_At p e below T27 m 27 #[rv ao, iv ut, iv ud, iv uq, iv (2 : Int32)] [(.int (0 : Int32)), (.ref bt)] _
    exact kt)
  have ls30 := own_aaload (ty := (.array .int)) rfl X27 hx hZ e27 f19 (j := (0 : Int32)) (i := 0) (by decide) (by decide) (by decide) (v := (.ref t0)) (rfl) (g := (mkF m 27 #[rv ao, iv ut, iv ud, iv uq, iv (2 : Int32)] [(.int (0 : Int32)), (.ref bt)])) rfl rfl (hb hby d7_27)
  have st31 : own_Go p e below (T27.setTop (mkF m 28 #[rv ao, iv ut, iv ud, iv uq, iv (2 : Int32)] [(.ref t0)])) B0 := fun t kt => st29 t (ls30 t kt)
  have st32 : own_Go p e below (T27.setTop (mkF m 35 #[rv ao, iv ut, iv ud, iv uq, iv (2 : Int32)] [(.int ut), (.int (2 : Int32)), (.ref t0)])) B0 := fun t kt => st31 t (by
    show own_At p e below T27 m 28 #[rv ao, iv ut, iv ud, iv uq, iv (2 : Int32)] [(.ref t0)] _
    refine XS.iload X27.here hx rfl (hb hby d7_28) rfl ?_
    show own_At p e below T27 m 30 #[rv ao, iv ut, iv ud, iv uq, iv (2 : Int32)] [(.int (2 : Int32)), (.ref t0)] _
    refine XS.sipush X27.here hx rfl (hb hby d7_30) ?_
    show own_At p e below T27 m 33 #[rv ao, iv ut, iv ud, iv uq, iv (2 : Int32)] [(.int (16383 : Int32)), (.int (2 : Int32)), (.ref t0)] _
    refine XS.iand X27.here hx rfl (hb hby d7_33) rfl ?_
    show own_At p e below T27 m 34 #[rv ao, iv ut, iv ud, iv uq, iv (2 : Int32)] [(.int ((2 : Int32) &&& (16383 : Int32))), (.ref t0)] _
    rw [show ((2 : Int32) &&& (16383 : Int32)) = (2 : Int32) from (by decide +kernel)]
    show own_At p e below T27 m 34 #[rv ao, iv ut, iv ud, iv uq, iv (2 : Int32)] [(.int (2 : Int32)), (.ref t0)] _
    refine XS.iloadN X27.here hx rfl (hb hby d7_34) rfl ?_
    show own_At p e below T27 m 35 #[rv ao, iv ut, iv ud, iv uq, iv (2 : Int32)] [(.int ut), (.int (2 : Int32)), (.ref t0)] _
    exact kt)
  obtain ⟨T33, h33, X33, e33, W33, B33, ls33⟩ := own_iastore X27 hx hZ e27 f21 (j := (2 : Int32)) (i := 2) (by decide) (by decide) (by decide) (g := (mkF m 35 #[rv ao, iv ut, iv ud, iv uq, iv (2 : Int32)] [(.int ut), (.int (2 : Int32)), (.ref t0)])) rfl rfl (hb hby d7_35)
  have N33 := Fr.snoc X33 N11 g_t0
  have f34 := f12.wr W33
  have f35 := f13.other W33 (Or.inl ne_ao_t0)
  have f36 := f14.other W33 (Or.inl ne_ao_t0)
  have f37 := f15.other W33 (Or.inl ne_ao_t0)
  have f38 := f16.other W33 (Or.inl ne_ao_t0)
  have f39 := f17.other W33 (Or.inl ne_ao_t0)
  have f40 := f18.other W33 ne_bs_t0
  have f41 := f19.other W33 ne_bt_t0
  have f42 := f20.other W33 ne_bf_t0
  have f43 := f22.other W33 (Ne.symm ne_t0_f0)
  have f44 := f24.other W33 ne_bn_t0
  have z45 := Nat.le_trans z23 (Keep.of_wr W33).1
  have f46 := B33.congr (g := (fun q => .int ((fun q => if q = 2 then ut else T q) (q)))) (fun q hq => by
      by_cases z : q = 2
      · subst z; simp
      · have z2 : ¬ q = 2 := by omega
        simp [z, z2])
  have st47 : own_Go p e below (T33.setTop (mkF m 36 #[rv ao, iv ut, iv ud, iv uq, iv (2 : Int32)] [])) B0 := fun t kt => st32 t (ls33 t kt)
  have st48 : own_Go p e below (T33.setTop (mkF m 37 #[rv ao, iv ut, iv ud, iv uq, iv (2 : Int32)] [(.ref ao)])) B0 := fun t kt => st47 t (by
    show own_At p e below T33 m 36 #[rv ao, iv ut, iv ud, iv uq, iv (2 : Int32)] [] _
    refine XS.aloadN X33.here hx rfl (hb hby d7_36) rfl rfl ?_
    show own_At p e below T33 m 37 #[rv ao, iv ut, iv ud, iv uq, iv (2 : Int32)] [(.ref ao)] _
    exact kt)
  obtain ⟨T49, X49, e49, ls49⟩ := getF X33 hx hZ hown (host := "") (Or.inl (hw _ (List.mem_of_getElem? (i := 33) rfl))) Via.refl e33 f39 (g := (mkF m 37 #[rv ao, iv ut, iv ud, iv uq, iv (2 : Int32)] [(.ref ao)])) rfl rfl (hb hby d7_37)
  have st50 : own_Go p e below (T49.setTop (mkF m 40 #[rv ao, iv ut, iv ud, iv uq, iv (2 : Int32)] [(.ref bf)])) B0 := fun t kt => st48 t (ls49 t kt)
  have st51 : own_Go p e below (T49.setTop (mkF m 45 #[rv ao, iv ut, iv ud, iv uq, iv (2 : Int32)] [(.int (0 : Int32)), (.ref bf)])) B0 := fun t kt => st50 t (by
    show own_At p e below T49 m 40 #[rv ao, iv ut, iv ud, iv uq, iv (2 : Int32)] [(.ref bf)] _
    refine XS.iload X49.here hx rfl (hb hby d7_40) rfl ?_
    show own_At p e below T49 m 42 #[rv ao, iv ut, iv ud, iv uq, iv (2 : Int32)] [(.int (2 : Int32)), (.ref bf)] _
    refine XS.bipush X49.here hx rfl (hb hby d7_42) ?_
    show own_At p e below T49 m 44 #[rv ao, iv ut, iv ud, iv uq, iv (2 : Int32)] [(.int (14 : Int32)), (.int (2 : Int32)), (.ref bf)] _
    refine XS.iushr X49.here hx rfl (hb hby d7_44) rfl ?_
    show own_At p e below T49 m 45 #[rv ao, iv ut, iv ud, iv uq, iv (2 : Int32)] [(.int (((2 : Int32).toUInt32 >>> ((14 : Int32) &&& 31).toUInt32).toInt32)), (.ref bf)] _
    rw [show (((2 : Int32).toUInt32 >>> ((14 : Int32) &&& 31).toUInt32).toInt32) = (0 : Int32) from (by decide +kernel)]
    show own_At p e below T49 m 45 #[rv ao, iv ut, iv ud, iv uq, iv (2 : Int32)] [(.int (0 : Int32)), (.ref bf)] _
    exact kt)
  have ls52 := own_aaload (ty := (.array .int)) rfl X49 hx hZ e49 f42 (j := (0 : Int32)) (i := 0) (by decide) (by decide) (by decide) (v := (.ref f0)) (rfl) (g := (mkF m 45 #[rv ao, iv ut, iv ud, iv uq, iv (2 : Int32)] [(.int (0 : Int32)), (.ref bf)])) rfl rfl (hb hby d7_45)
  have st53 : own_Go p e below (T49.setTop (mkF m 46 #[rv ao, iv ut, iv ud, iv uq, iv (2 : Int32)] [(.ref f0)])) B0 := fun t kt => st51 t (ls52 t kt)
  have st54 : own_Go p e below (T49.setTop (mkF m 53 #[rv ao, iv ut, iv ud, iv uq, iv (2 : Int32)] [(.int uq), (.int (2 : Int32)), (.ref f0)])) B0 := fun t kt => st53 t (by
    show own_At p e below T49 m 46 #[rv ao, iv ut, iv ud, iv uq, iv (2 : Int32)] [(.ref f0)] _
    refine XS.iload X49.here hx rfl (hb hby d7_46) rfl ?_
    show own_At p e below T49 m 48 #[rv ao, iv ut, iv ud, iv uq, iv (2 : Int32)] [(.int (2 : Int32)), (.ref f0)] _
    refine XS.sipush X49.here hx rfl (hb hby d7_48) ?_
    show own_At p e below T49 m 51 #[rv ao, iv ut, iv ud, iv uq, iv (2 : Int32)] [(.int (16383 : Int32)), (.int (2 : Int32)), (.ref f0)] _
    refine XS.iand X49.here hx rfl (hb hby d7_51) rfl ?_
    show own_At p e below T49 m 52 #[rv ao, iv ut, iv ud, iv uq, iv (2 : Int32)] [(.int ((2 : Int32) &&& (16383 : Int32))), (.ref f0)] _
    rw [show ((2 : Int32) &&& (16383 : Int32)) = (2 : Int32) from (by decide +kernel)]
    show own_At p e below T49 m 52 #[rv ao, iv ut, iv ud, iv uq, iv (2 : Int32)] [(.int (2 : Int32)), (.ref f0)] _
    refine XS.iloadN X49.here hx rfl (hb hby d7_52) rfl ?_
    show own_At p e below T49 m 53 #[rv ao, iv ut, iv ud, iv uq, iv (2 : Int32)] [(.int uq), (.int (2 : Int32)), (.ref f0)] _
    exact kt)
  obtain ⟨T55, h55, X55, e55, W55, B55, ls55⟩ := own_iastore X49 hx hZ e49 f43 (j := (2 : Int32)) (i := 2) (by decide) (by decide) (by decide) (g := (mkF m 53 #[rv ao, iv ut, iv ud, iv uq, iv (2 : Int32)] [(.int uq), (.int (2 : Int32)), (.ref f0)])) rfl rfl (hb hby d7_53)
  have N55 := Fr.snoc X55 N33 g_f0
  have f56 := f34.wr W55
  have f57 := f35.other W55 (Or.inl ne_ao_f0)
  have f58 := f36.other W55 (Or.inl ne_ao_f0)
  have f59 := f37.other W55 (Or.inl ne_ao_f0)
  have f60 := f38.other W55 (Or.inl ne_ao_f0)
  have f61 := f39.other W55 (Or.inl ne_ao_f0)
  have f62 := f40.other W55 ne_bs_f0
  have f63 := f41.other W55 ne_bt_f0
  have f64 := f42.other W55 ne_bf_f0
  have f65 := f44.other W55 ne_bn_f0
  have f66 := f46.other W55 ne_t0_f0
  have z67 := Nat.le_trans z45 (Keep.of_wr W55).1
  have f68 := B55.congr (g := (fun q => .int ((fun q => if q = 2 then uq else F q) (q)))) (fun q hq => by
      by_cases z : q = 2
      · subst z; simp
      · have z2 : ¬ q = 2 := by omega
        simp [z, z2])
  have st69 : own_Go p e below (T55.setTop (mkF m 54 #[rv ao, iv ut, iv ud, iv uq, iv (2 : Int32)] [])) B0 := fun t kt => st54 t (ls55 t kt)
  obtain ⟨fs, hr, hrun, hended, hW, hsame⟩ := X55.leave (v := none) (fun _ => rfl)
  subst hB0
  refine ⟨_, _, st69 _ ?_, hrun, hended, _, _, rfl, ?_, ⟨_, rfl⟩, hW, hsame.mono (by decide) (by decide)⟩
  · exact X55.returnOut hx Bd.returns (hb hby d7_54) hr
  · show Q_rm_add_1_2 Z ao ut ud uq uf nx T F h0 n0 _ T55.heap _
    rw [e55]
    exact ⟨rfl, N55, z67, f56, f57, bs, bn, bt, bf, t0, f0, hge, nd, f58, f59, f60, f61, f62, f65, f63, f66, f64, f68⟩
def Q_rm_add_2_3 (Z : State) (ao : Addr) (ut : Int32) (ud : Int32) (uq : Int32) (uf : Int32) (nx : Nat → Int32) (T : Nat → Int32) (F : Nat → Int32) (h0 : Heap) (n0 : Nat) (v : Option Value) (h : Heap) (L : List Loc) : Prop := v = none ∧ Fr n0 L ∧ n0 ≤ h.size ∧ own_VS Z h n0 ao uf (fun q => if q = 2 then 4 else nx q) (fun q => if q = 3 then ut else T q) (fun q => if q = 3 then uq else F q)
set_option maxRecDepth 65536 in
set_option maxHeartbeats 40000000 in
theorem rm_add_2_3 (l : Launch) (Z : State) (a0 : Array Value) (hw : ∀ d ∈ tables_1, d.before a0 Z = true) (ws : List Jvm.Cond) (ao : Addr) (ut : Int32) (ud : Int32) (uq : Int32) (uf : Int32) (nx : Nat → Int32) (T : Nat → Int32) (F : Nat → Int32) (h0 : Heap) (n0 : Nat) (Z0 : n0 ≤ h0.size) (V : own_VS Z h0 n0 ao uf nx T F) (hd : ud - uf = 2) (hnx : nx 2 = 3) :
    MetFree l (⟨"com/example/ranked_text_search/rankedtextsearch/MemoryTermVectors", "add", "(III)V"⟩ : MethodName) (head1 (Jvm.Cond.code (⟨"com/example/ranked_text_search/rankedtextsearch/MemoryTermVectors", "add", "(III)V"⟩ : MethodName) prog_50_method_4_code 5 none :: ws) ({ frames := 0, cells := 0, slots := 0, locals := 0 } : Room)) (fun a U => a = #[(.ref ao), (.int ut), (.int ud), (.int uq)] ∧ Z.Warmed39 U.vm ∧ U.heap = h0) (fun _ _ _ _ _ => True) (fun _ U o U' => ∃ v L, o = .returned v ∧ Q_rm_add_2_3 Z ao ut ud uq uf nx T F h0 n0 v U'.heap L ∧ FrameEnd U o U' L ({ frames := 0, cells := 0, slots := 0, locals := 0 } : Room).cells ({ frames := 0, cells := 0, slots := 0, locals := 0 } : Room).slots) := by
  refine MetFree.of_bodySF (plainFor_of_name own_pn2) hisR ?_
  intro p e s m args below meth c s₁ Bd hml0 hP hK
  obtain ⟨rfl, hZ, hh⟩ := hP
  have hx := Bd.exec
  have hby := Bd.bytes
  have hml : c.maxLocals = 5 := hml0
  have hown : s.vm.findClass "com/example/ranked_text_search/rankedtextsearch/MemoryTermVectors" = some m.cls := findClass_of_methodNamed Bd.named
  have hnm := (name_of_methodNamed Bd.named Bd.method).1
  have X0 : Stand p l e ({ frames := 0, cells := 0, slots := 0, locals := 0 } : Room) s m #[(.ref ao), (.int ut), (.int ud), (.int uq)] below meth c s₁ [] 0 0 := Stand.of_body Bd
  have e0 : s₁.heap = h0 := by rw [← hh, Bd.state]; rfl
  have N0 := Fr.nil n0
  obtain ⟨B0, hB0⟩ : ∃ B, B = (s₁.setTop (entryFrame m #[(.ref ao), (.int ut), (.int ud), (.int uq)] 5)) := ⟨_, rfl⟩
  have st0 : own_Go p e below (s₁.setTop (mkF m 0 #[rv ao, iv ut, iv ud, iv uq, .unset] [])) B0 := fun t k => hB0 ▸ castTop (own_ef7_RIII m ao ut ud uq) k
  obtain ⟨E_ao, F_from, bs, bn, bt, bf, t0, f0, hge, nd, F_starts, F_next, F_tn, F_fq, A_bs, A_bn, A_bt, A_t0, A_bf, A_f0⟩ := V
  have g_ao := hge ao (List.mem_of_getElem? (i := 0) rfl)
  have ne_ao_bs := own_nd nd 0 1 rfl rfl (by decide)
  have ne_ao_bn := own_nd nd 0 2 rfl rfl (by decide)
  have ne_ao_bt := own_nd nd 0 3 rfl rfl (by decide)
  have ne_ao_bf := own_nd nd 0 4 rfl rfl (by decide)
  have ne_ao_t0 := own_nd nd 0 5 rfl rfl (by decide)
  have ne_ao_f0 := own_nd nd 0 6 rfl rfl (by decide)
  have g_bs := hge bs (List.mem_of_getElem? (i := 1) rfl)
  have ne_bs_bn := own_nd nd 1 2 rfl rfl (by decide)
  have ne_bs_bt := own_nd nd 1 3 rfl rfl (by decide)
  have ne_bs_bf := own_nd nd 1 4 rfl rfl (by decide)
  have ne_bs_t0 := own_nd nd 1 5 rfl rfl (by decide)
  have ne_bs_f0 := own_nd nd 1 6 rfl rfl (by decide)
  have g_bn := hge bn (List.mem_of_getElem? (i := 2) rfl)
  have ne_bn_bt := own_nd nd 2 3 rfl rfl (by decide)
  have ne_bn_bf := own_nd nd 2 4 rfl rfl (by decide)
  have ne_bn_t0 := own_nd nd 2 5 rfl rfl (by decide)
  have ne_bn_f0 := own_nd nd 2 6 rfl rfl (by decide)
  have g_bt := hge bt (List.mem_of_getElem? (i := 3) rfl)
  have ne_bt_bf := own_nd nd 3 4 rfl rfl (by decide)
  have ne_bt_t0 := own_nd nd 3 5 rfl rfl (by decide)
  have ne_bt_f0 := own_nd nd 3 6 rfl rfl (by decide)
  have g_bf := hge bf (List.mem_of_getElem? (i := 4) rfl)
  have ne_bf_t0 := own_nd nd 4 5 rfl rfl (by decide)
  have ne_bf_f0 := own_nd nd 4 6 rfl rfl (by decide)
  have g_t0 := hge t0 (List.mem_of_getElem? (i := 5) rfl)
  have ne_t0_f0 := own_nd nd 5 6 rfl rfl (by decide)
  have g_f0 := hge f0 (List.mem_of_getElem? (i := 6) rfl)
  have st1 : own_Go p e below (s₁.setTop (mkF m 1 #[rv ao, iv ut, iv ud, iv uq, .unset] [(.ref ao)])) B0 := fun t kt => st0 t (by
    show own_At p e below s₁ m 0 #[rv ao, iv ut, iv ud, iv uq, .unset] [] _
    refine XS.aloadN X0.here hx rfl (hb hby d7_0) rfl rfl ?_
    show own_At p e below s₁ m 1 #[rv ao, iv ut, iv ud, iv uq, .unset] [(.ref ao)] _
    exact kt)
  obtain ⟨T2, X2, e2, ls2⟩ := getF X0 hx hZ hown (host := "") (Or.inl (hw _ (List.mem_of_getElem? (i := 44) rfl))) Via.refl e0 F_next (g := (mkF m 1 #[rv ao, iv ut, iv ud, iv uq, .unset] [(.ref ao)])) rfl rfl (hb hby d7_1)
  have st3 : own_Go p e below (T2.setTop (mkF m 4 #[rv ao, iv ut, iv ud, iv uq, .unset] [(.ref bn)])) B0 := fun t kt => st1 t (ls2 t kt)
  have st4 : own_Go p e below (T2.setTop (mkF m 6 #[rv ao, iv ut, iv ud, iv uq, .unset] [(.ref ao), (.int ud), (.ref bn)])) B0 := fun t kt => st3 t (by
    show own_At p e below T2 m 4 #[rv ao, iv ut, iv ud, iv uq, .unset] [(.ref bn)] _
    refine XS.iloadN X2.here hx rfl (hb hby d7_4) rfl ?_
    show own_At p e below T2 m 5 #[rv ao, iv ut, iv ud, iv uq, .unset] [(.int ud), (.ref bn)] _
    refine XS.aloadN X2.here hx rfl (hb hby d7_5) rfl rfl ?_
    show own_At p e below T2 m 6 #[rv ao, iv ut, iv ud, iv uq, .unset] [(.ref ao), (.int ud), (.ref bn)] _
    exact kt)
  obtain ⟨T5, X5, e5, ls5⟩ := getF X2 hx hZ hown (host := "") (Or.inl (hw _ (List.mem_of_getElem? (i := 19) rfl))) Via.refl e2 F_from (g := (mkF m 6 #[rv ao, iv ut, iv ud, iv uq, .unset] [(.ref ao), (.int ud), (.ref bn)])) rfl rfl (hb hby d7_6)
  have st6 : own_Go p e below (T5.setTop (mkF m 9 #[rv ao, iv ut, iv ud, iv uq, .unset] [(.int uf), (.int ud), (.ref bn)])) B0 := fun t kt => st4 t (ls5 t kt)
  have st7 : own_Go p e below (T5.setTop (mkF m 11 #[rv ao, iv ut, iv ud, iv uq, .unset] [(.int (ud - uf)), (.ref bn), (.int (ud - uf)), (.ref bn)])) B0 := fun t kt => st6 t (by
    show own_At p e below T5 m 9 #[rv ao, iv ut, iv ud, iv uq, .unset] [(.int uf), (.int ud), (.ref bn)] _
    refine XS.isub X5.here hx rfl (hb hby d7_9) rfl ?_
    show own_At p e below T5 m 10 #[rv ao, iv ut, iv ud, iv uq, .unset] [(.int (ud - uf)), (.ref bn)] _
    jvm_step X5.here [X5.here.top, hx, (hb hby d7_10), Value.category]
    show own_At p e below T5 m 11 #[rv ao, iv ut, iv ud, iv uq, .unset] [(.int (ud - uf)), (.ref bn), (.int (ud - uf)), (.ref bn)] _
    exact kt)
  have ls8 := own_iaload X5 hx hZ e5 A_bn (j := (ud - uf)) (i := 2) (by rw [hd]; decide) (by rw [hd]; decide) (by decide) (v := (.int (3 : Int32))) (congrArg Value.int hnx) (g := (mkF m 11 #[rv ao, iv ut, iv ud, iv uq, .unset] [(.int (ud - uf)), (.ref bn), (.int (ud - uf)), (.ref bn)])) rfl rfl (hb hby d7_11)
  have st9 : own_Go p e below (T5.setTop (mkF m 12 #[rv ao, iv ut, iv ud, iv uq, .unset] [(.int (3 : Int32)), (.int (ud - uf)), (.ref bn)])) B0 := fun t kt => st7 t (ls8 t kt)
  have st10 : own_Go p e below (T5.setTop (mkF m 15 #[rv ao, iv ut, iv ud, iv uq, .unset] [(.int (4 : Int32)), (.int (ud - uf)), (.ref bn), (.int (3 : Int32))])) B0 := fun t kt => st9 t (by
    show own_At p e below T5 m 12 #[rv ao, iv ut, iv ud, iv uq, .unset] [(.int (3 : Int32)), (.int (ud - uf)), (.ref bn)] _
    jvm_step X5.here [X5.here.top, hx, (hb hby d7_12), Value.category]
    show own_At p e below T5 m 13 #[rv ao, iv ut, iv ud, iv uq, .unset] [(.int (3 : Int32)), (.int (ud - uf)), (.ref bn), (.int (3 : Int32))] _
    refine XS.iconst X5.here hx rfl (hb hby d7_13) ?_
    show own_At p e below T5 m 14 #[rv ao, iv ut, iv ud, iv uq, .unset] [(.int (1 : Int32)), (.int (3 : Int32)), (.int (ud - uf)), (.ref bn), (.int (3 : Int32))] _
    refine XS.iadd X5.here hx rfl (hb hby d7_14) rfl ?_
    show own_At p e below T5 m 15 #[rv ao, iv ut, iv ud, iv uq, .unset] [(.int ((3 : Int32) + (1 : Int32))), (.int (ud - uf)), (.ref bn), (.int (3 : Int32))] _
    rw [show ((3 : Int32) + (1 : Int32)) = (4 : Int32) from (by decide +kernel)]
    show own_At p e below T5 m 15 #[rv ao, iv ut, iv ud, iv uq, .unset] [(.int (4 : Int32)), (.int (ud - uf)), (.ref bn), (.int (3 : Int32))] _
    exact kt)
  obtain ⟨T11, h11, X11, e11, W11, B11, ls11⟩ := own_iastore X5 hx hZ e5 A_bn (j := (ud - uf)) (i := 2) (by rw [hd]; decide) (by rw [hd]; decide) (by decide) (g := (mkF m 15 #[rv ao, iv ut, iv ud, iv uq, .unset] [(.int (4 : Int32)), (.int (ud - uf)), (.ref bn), (.int (3 : Int32))])) rfl rfl (hb hby d7_15)
  have N11 := Fr.snoc X11 N0 g_bn
  have f12 := E_ao.wr W11
  have f13 := F_from.other W11 (Or.inl ne_ao_bn)
  have f14 := F_starts.other W11 (Or.inl ne_ao_bn)
  have f15 := F_next.other W11 (Or.inl ne_ao_bn)
  have f16 := F_tn.other W11 (Or.inl ne_ao_bn)
  have f17 := F_fq.other W11 (Or.inl ne_ao_bn)
  have f18 := A_bs.other W11 ne_bs_bn
  have f19 := A_bt.other W11 (Ne.symm ne_bn_bt)
  have f20 := A_bf.other W11 (Ne.symm ne_bn_bf)
  have f21 := A_t0.other W11 (Ne.symm ne_bn_t0)
  have f22 := A_f0.other W11 (Ne.symm ne_bn_f0)
  have z23 := Nat.le_trans Z0 (Keep.of_wr W11).1
  have f24 := B11.congr (g := (fun q => .int ((fun q => if q = 2 then 4 else nx q) q))) (fun q _ => by by_cases z : q = 2 <;> simp [z])
  have st25 : own_Go p e below (T11.setTop (mkF m 16 #[rv ao, iv ut, iv ud, iv uq, .unset] [(.int (3 : Int32))])) B0 := fun t kt => st10 t (ls11 t kt)
  have st26 : own_Go p e below (T11.setTop (mkF m 19 #[rv ao, iv ut, iv ud, iv uq, iv (3 : Int32)] [(.ref ao)])) B0 := fun t kt => st25 t (by
    show own_At p e below T11 m 16 #[rv ao, iv ut, iv ud, iv uq, .unset] [(.int (3 : Int32))] _
    refine XS.istore X11.here hx rfl (hb hby d7_16) rfl (l' := #[rv ao, iv ut, iv ud, iv uq, iv (3 : Int32)]) rfl ?_
    show own_At p e below T11 m 18 #[rv ao, iv ut, iv ud, iv uq, iv (3 : Int32)] [] _
    refine XS.aloadN X11.here hx rfl (hb hby d7_18) rfl rfl ?_
    show own_At p e below T11 m 19 #[rv ao, iv ut, iv ud, iv uq, iv (3 : Int32)] [(.ref ao)] _
    exact kt)
  obtain ⟨T27, X27, e27, ls27⟩ := getF X11 hx hZ hown (host := "") (Or.inl (hw _ (List.mem_of_getElem? (i := 31) rfl))) Via.refl e11 f16 (g := (mkF m 19 #[rv ao, iv ut, iv ud, iv uq, iv (3 : Int32)] [(.ref ao)])) rfl rfl (hb hby d7_19)
  have st28 : own_Go p e below (T27.setTop (mkF m 22 #[rv ao, iv ut, iv ud, iv uq, iv (3 : Int32)] [(.ref bt)])) B0 := fun t kt => st26 t (ls27 t kt)
  have st29 : own_Go p e below (T27.setTop (mkF m 27 #[rv ao, iv ut, iv ud, iv uq, iv (3 : Int32)] [(.int (0 : Int32)), (.ref bt)])) B0 := fun t kt => st28 t (by
    show own_At p e below T27 m 22 #[rv ao, iv ut, iv ud, iv uq, iv (3 : Int32)] [(.ref bt)] _
    refine XS.iload X27.here hx rfl (hb hby d7_22) rfl ?_
    show own_At p e below T27 m 24 #[rv ao, iv ut, iv ud, iv uq, iv (3 : Int32)] [(.int (3 : Int32)), (.ref bt)] _
    refine XS.bipush X27.here hx rfl (hb hby d7_24) ?_
    show own_At p e below T27 m 26 #[rv ao, iv ut, iv ud, iv uq, iv (3 : Int32)] [(.int (14 : Int32)), (.int (3 : Int32)), (.ref bt)] _
    refine XS.iushr X27.here hx rfl (hb hby d7_26) rfl ?_
    show own_At p e below T27 m 27 #[rv ao, iv ut, iv ud, iv uq, iv (3 : Int32)] [(.int (((3 : Int32).toUInt32 >>> ((14 : Int32) &&& 31).toUInt32).toInt32)), (.ref bt)] _
    rw [show (((3 : Int32).toUInt32 >>> ((14 : Int32) &&& 31).toUInt32).toInt32) = (0 : Int32) from (by decide +kernel)]
    show own_At p e below T27 m 27 #[rv ao, iv ut, iv ud, iv uq, iv (3 : Int32)] [(.int (0 : Int32)), (.ref bt)] _
    exact kt)
  have ls30 := own_aaload (ty := (.array .int)) rfl X27 hx hZ e27 f19 (j := (0 : Int32)) (i := 0) (by decide) (by decide) (by decide) (v := (.ref t0)) (rfl) (g := (mkF m 27 #[rv ao, iv ut, iv ud, iv uq, iv (3 : Int32)] [(.int (0 : Int32)), (.ref bt)])) rfl rfl (hb hby d7_27)
  have st31 : own_Go p e below (T27.setTop (mkF m 28 #[rv ao, iv ut, iv ud, iv uq, iv (3 : Int32)] [(.ref t0)])) B0 := fun t kt => st29 t (ls30 t kt)
  have st32 : own_Go p e below (T27.setTop (mkF m 35 #[rv ao, iv ut, iv ud, iv uq, iv (3 : Int32)] [(.int ut), (.int (3 : Int32)), (.ref t0)])) B0 := fun t kt => st31 t (by
    show own_At p e below T27 m 28 #[rv ao, iv ut, iv ud, iv uq, iv (3 : Int32)] [(.ref t0)] _
    refine XS.iload X27.here hx rfl (hb hby d7_28) rfl ?_
    show own_At p e below T27 m 30 #[rv ao, iv ut, iv ud, iv uq, iv (3 : Int32)] [(.int (3 : Int32)), (.ref t0)] _
    refine XS.sipush X27.here hx rfl (hb hby d7_30) ?_
    show own_At p e below T27 m 33 #[rv ao, iv ut, iv ud, iv uq, iv (3 : Int32)] [(.int (16383 : Int32)), (.int (3 : Int32)), (.ref t0)] _
    refine XS.iand X27.here hx rfl (hb hby d7_33) rfl ?_
    show own_At p e below T27 m 34 #[rv ao, iv ut, iv ud, iv uq, iv (3 : Int32)] [(.int ((3 : Int32) &&& (16383 : Int32))), (.ref t0)] _
    rw [show ((3 : Int32) &&& (16383 : Int32)) = (3 : Int32) from (by decide +kernel)]
    show own_At p e below T27 m 34 #[rv ao, iv ut, iv ud, iv uq, iv (3 : Int32)] [(.int (3 : Int32)), (.ref t0)] _
    refine XS.iloadN X27.here hx rfl (hb hby d7_34) rfl ?_
    show own_At p e below T27 m 35 #[rv ao, iv ut, iv ud, iv uq, iv (3 : Int32)] [(.int ut), (.int (3 : Int32)), (.ref t0)] _
    exact kt)
  obtain ⟨T33, h33, X33, e33, W33, B33, ls33⟩ := own_iastore X27 hx hZ e27 f21 (j := (3 : Int32)) (i := 3) (by decide) (by decide) (by decide) (g := (mkF m 35 #[rv ao, iv ut, iv ud, iv uq, iv (3 : Int32)] [(.int ut), (.int (3 : Int32)), (.ref t0)])) rfl rfl (hb hby d7_35)
  have N33 := Fr.snoc X33 N11 g_t0
  have f34 := f12.wr W33
  have f35 := f13.other W33 (Or.inl ne_ao_t0)
  have f36 := f14.other W33 (Or.inl ne_ao_t0)
  have f37 := f15.other W33 (Or.inl ne_ao_t0)
  have f38 := f16.other W33 (Or.inl ne_ao_t0)
  have f39 := f17.other W33 (Or.inl ne_ao_t0)
  have f40 := f18.other W33 ne_bs_t0
  have f41 := f19.other W33 ne_bt_t0
  have f42 := f20.other W33 ne_bf_t0
  have f43 := f22.other W33 (Ne.symm ne_t0_f0)
  have f44 := f24.other W33 ne_bn_t0
  have z45 := Nat.le_trans z23 (Keep.of_wr W33).1
  have f46 := B33.congr (g := (fun q => .int ((fun q => if q = 3 then ut else T q) (q)))) (fun q hq => by
      by_cases z : q = 3
      · subst z; simp
      · have z2 : ¬ q = 3 := by omega
        simp [z, z2])
  have st47 : own_Go p e below (T33.setTop (mkF m 36 #[rv ao, iv ut, iv ud, iv uq, iv (3 : Int32)] [])) B0 := fun t kt => st32 t (ls33 t kt)
  have st48 : own_Go p e below (T33.setTop (mkF m 37 #[rv ao, iv ut, iv ud, iv uq, iv (3 : Int32)] [(.ref ao)])) B0 := fun t kt => st47 t (by
    show own_At p e below T33 m 36 #[rv ao, iv ut, iv ud, iv uq, iv (3 : Int32)] [] _
    refine XS.aloadN X33.here hx rfl (hb hby d7_36) rfl rfl ?_
    show own_At p e below T33 m 37 #[rv ao, iv ut, iv ud, iv uq, iv (3 : Int32)] [(.ref ao)] _
    exact kt)
  obtain ⟨T49, X49, e49, ls49⟩ := getF X33 hx hZ hown (host := "") (Or.inl (hw _ (List.mem_of_getElem? (i := 33) rfl))) Via.refl e33 f39 (g := (mkF m 37 #[rv ao, iv ut, iv ud, iv uq, iv (3 : Int32)] [(.ref ao)])) rfl rfl (hb hby d7_37)
  have st50 : own_Go p e below (T49.setTop (mkF m 40 #[rv ao, iv ut, iv ud, iv uq, iv (3 : Int32)] [(.ref bf)])) B0 := fun t kt => st48 t (ls49 t kt)
  have st51 : own_Go p e below (T49.setTop (mkF m 45 #[rv ao, iv ut, iv ud, iv uq, iv (3 : Int32)] [(.int (0 : Int32)), (.ref bf)])) B0 := fun t kt => st50 t (by
    show own_At p e below T49 m 40 #[rv ao, iv ut, iv ud, iv uq, iv (3 : Int32)] [(.ref bf)] _
    refine XS.iload X49.here hx rfl (hb hby d7_40) rfl ?_
    show own_At p e below T49 m 42 #[rv ao, iv ut, iv ud, iv uq, iv (3 : Int32)] [(.int (3 : Int32)), (.ref bf)] _
    refine XS.bipush X49.here hx rfl (hb hby d7_42) ?_
    show own_At p e below T49 m 44 #[rv ao, iv ut, iv ud, iv uq, iv (3 : Int32)] [(.int (14 : Int32)), (.int (3 : Int32)), (.ref bf)] _
    refine XS.iushr X49.here hx rfl (hb hby d7_44) rfl ?_
    show own_At p e below T49 m 45 #[rv ao, iv ut, iv ud, iv uq, iv (3 : Int32)] [(.int (((3 : Int32).toUInt32 >>> ((14 : Int32) &&& 31).toUInt32).toInt32)), (.ref bf)] _
    rw [show (((3 : Int32).toUInt32 >>> ((14 : Int32) &&& 31).toUInt32).toInt32) = (0 : Int32) from (by decide +kernel)]
    show own_At p e below T49 m 45 #[rv ao, iv ut, iv ud, iv uq, iv (3 : Int32)] [(.int (0 : Int32)), (.ref bf)] _
    exact kt)
  have ls52 := own_aaload (ty := (.array .int)) rfl X49 hx hZ e49 f42 (j := (0 : Int32)) (i := 0) (by decide) (by decide) (by decide) (v := (.ref f0)) (rfl) (g := (mkF m 45 #[rv ao, iv ut, iv ud, iv uq, iv (3 : Int32)] [(.int (0 : Int32)), (.ref bf)])) rfl rfl (hb hby d7_45)
  have st53 : own_Go p e below (T49.setTop (mkF m 46 #[rv ao, iv ut, iv ud, iv uq, iv (3 : Int32)] [(.ref f0)])) B0 := fun t kt => st51 t (ls52 t kt)
  have st54 : own_Go p e below (T49.setTop (mkF m 53 #[rv ao, iv ut, iv ud, iv uq, iv (3 : Int32)] [(.int uq), (.int (3 : Int32)), (.ref f0)])) B0 := fun t kt => st53 t (by
    show own_At p e below T49 m 46 #[rv ao, iv ut, iv ud, iv uq, iv (3 : Int32)] [(.ref f0)] _
    refine XS.iload X49.here hx rfl (hb hby d7_46) rfl ?_
    show own_At p e below T49 m 48 #[rv ao, iv ut, iv ud, iv uq, iv (3 : Int32)] [(.int (3 : Int32)), (.ref f0)] _
    refine XS.sipush X49.here hx rfl (hb hby d7_48) ?_
    show own_At p e below T49 m 51 #[rv ao, iv ut, iv ud, iv uq, iv (3 : Int32)] [(.int (16383 : Int32)), (.int (3 : Int32)), (.ref f0)] _
    refine XS.iand X49.here hx rfl (hb hby d7_51) rfl ?_
    show own_At p e below T49 m 52 #[rv ao, iv ut, iv ud, iv uq, iv (3 : Int32)] [(.int ((3 : Int32) &&& (16383 : Int32))), (.ref f0)] _
    rw [show ((3 : Int32) &&& (16383 : Int32)) = (3 : Int32) from (by decide +kernel)]
    show own_At p e below T49 m 52 #[rv ao, iv ut, iv ud, iv uq, iv (3 : Int32)] [(.int (3 : Int32)), (.ref f0)] _
    refine XS.iloadN X49.here hx rfl (hb hby d7_52) rfl ?_
    show own_At p e below T49 m 53 #[rv ao, iv ut, iv ud, iv uq, iv (3 : Int32)] [(.int uq), (.int (3 : Int32)), (.ref f0)] _
    exact kt)
  obtain ⟨T55, h55, X55, e55, W55, B55, ls55⟩ := own_iastore X49 hx hZ e49 f43 (j := (3 : Int32)) (i := 3) (by decide) (by decide) (by decide) (g := (mkF m 53 #[rv ao, iv ut, iv ud, iv uq, iv (3 : Int32)] [(.int uq), (.int (3 : Int32)), (.ref f0)])) rfl rfl (hb hby d7_53)
  have N55 := Fr.snoc X55 N33 g_f0
  have f56 := f34.wr W55
  have f57 := f35.other W55 (Or.inl ne_ao_f0)
  have f58 := f36.other W55 (Or.inl ne_ao_f0)
  have f59 := f37.other W55 (Or.inl ne_ao_f0)
  have f60 := f38.other W55 (Or.inl ne_ao_f0)
  have f61 := f39.other W55 (Or.inl ne_ao_f0)
  have f62 := f40.other W55 ne_bs_f0
  have f63 := f41.other W55 ne_bt_f0
  have f64 := f42.other W55 ne_bf_f0
  have f65 := f44.other W55 ne_bn_f0
  have f66 := f46.other W55 ne_t0_f0
  have z67 := Nat.le_trans z45 (Keep.of_wr W55).1
  have f68 := B55.congr (g := (fun q => .int ((fun q => if q = 3 then uq else F q) (q)))) (fun q hq => by
      by_cases z : q = 3
      · subst z; simp
      · have z2 : ¬ q = 3 := by omega
        simp [z, z2])
  have st69 : own_Go p e below (T55.setTop (mkF m 54 #[rv ao, iv ut, iv ud, iv uq, iv (3 : Int32)] [])) B0 := fun t kt => st54 t (ls55 t kt)
  obtain ⟨fs, hr, hrun, hended, hW, hsame⟩ := X55.leave (v := none) (fun _ => rfl)
  subst hB0
  refine ⟨_, _, st69 _ ?_, hrun, hended, _, _, rfl, ?_, ⟨_, rfl⟩, hW, hsame.mono (by decide) (by decide)⟩
  · exact X55.returnOut hx Bd.returns (hb hby d7_54) hr
  · show Q_rm_add_2_3 Z ao ut ud uq uf nx T F h0 n0 _ T55.heap _
    rw [e55]
    exact ⟨rfl, N55, z67, f56, f57, bs, bn, bt, bf, t0, f0, hge, nd, f58, f59, f60, f61, f62, f65, f63, f66, f64, f68⟩
def Q_rm_add_1_16383 (Z : State) (ao : Addr) (ut : Int32) (ud : Int32) (uq : Int32) (uf : Int32) (nx : Nat → Int32) (T : Nat → Int32) (F : Nat → Int32) (h0 : Heap) (n0 : Nat) (v : Option Value) (h : Heap) (L : List Loc) : Prop := v = none ∧ Fr n0 L ∧ n0 ≤ h.size ∧ own_VB Z h n0 ao uf (fun q => if q = 1 then 16384 else nx q) (fun q => if q = 16383 then ut else T q) (fun q => if q = 16383 then uq else F q)
set_option maxRecDepth 65536 in
set_option maxHeartbeats 40000000 in
theorem rm_add_1_16383 (l : Launch) (Z : State) (a0 : Array Value) (hw : ∀ d ∈ tables_1, d.before a0 Z = true) (ws : List Jvm.Cond) (ao : Addr) (ut : Int32) (ud : Int32) (uq : Int32) (uf : Int32) (nx : Nat → Int32) (T : Nat → Int32) (F : Nat → Int32) (h0 : Heap) (n0 : Nat) (Z0 : n0 ≤ h0.size) (V : own_VB Z h0 n0 ao uf nx T F) (hd : ud - uf = 1) (hnx : nx 1 = 16383) :
    MetFree l (⟨"com/example/ranked_text_search/rankedtextsearch/MemoryTermVectors", "add", "(III)V"⟩ : MethodName) (head1 (Jvm.Cond.code (⟨"com/example/ranked_text_search/rankedtextsearch/MemoryTermVectors", "add", "(III)V"⟩ : MethodName) prog_50_method_4_code 5 none :: ws) ({ frames := 0, cells := 0, slots := 0, locals := 0 } : Room)) (fun a U => a = #[(.ref ao), (.int ut), (.int ud), (.int uq)] ∧ Z.Warmed39 U.vm ∧ U.heap = h0) (fun _ _ _ _ _ => True) (fun _ U o U' => ∃ v L, o = .returned v ∧ Q_rm_add_1_16383 Z ao ut ud uq uf nx T F h0 n0 v U'.heap L ∧ FrameEnd U o U' L ({ frames := 0, cells := 0, slots := 0, locals := 0 } : Room).cells ({ frames := 0, cells := 0, slots := 0, locals := 0 } : Room).slots) := by
  refine MetFree.of_bodySF (plainFor_of_name own_pn2) hisR ?_
  intro p e s m args below meth c s₁ Bd hml0 hP hK
  obtain ⟨rfl, hZ, hh⟩ := hP
  have hx := Bd.exec
  have hby := Bd.bytes
  have hml : c.maxLocals = 5 := hml0
  have hown : s.vm.findClass "com/example/ranked_text_search/rankedtextsearch/MemoryTermVectors" = some m.cls := findClass_of_methodNamed Bd.named
  have hnm := (name_of_methodNamed Bd.named Bd.method).1
  have X0 : Stand p l e ({ frames := 0, cells := 0, slots := 0, locals := 0 } : Room) s m #[(.ref ao), (.int ut), (.int ud), (.int uq)] below meth c s₁ [] 0 0 := Stand.of_body Bd
  have e0 : s₁.heap = h0 := by rw [← hh, Bd.state]; rfl
  have N0 := Fr.nil n0
  obtain ⟨B0, hB0⟩ : ∃ B, B = (s₁.setTop (entryFrame m #[(.ref ao), (.int ut), (.int ud), (.int uq)] 5)) := ⟨_, rfl⟩
  have st0 : own_Go p e below (s₁.setTop (mkF m 0 #[rv ao, iv ut, iv ud, iv uq, .unset] [])) B0 := fun t k => hB0 ▸ castTop (own_ef7_RIII m ao ut ud uq) k
  obtain ⟨E_ao, F_from, bs, bn, bt, bf, t0, t1, f0, f1, hge, nd, F_starts, F_next, F_tn, F_fq, A_bs, A_bn, A_bt, A_t0, A_t1, A_bf, A_f0, A_f1⟩ := V
  have g_ao := hge ao (List.mem_of_getElem? (i := 0) rfl)
  have ne_ao_bs := own_nd nd 0 1 rfl rfl (by decide)
  have ne_ao_bn := own_nd nd 0 2 rfl rfl (by decide)
  have ne_ao_bt := own_nd nd 0 3 rfl rfl (by decide)
  have ne_ao_bf := own_nd nd 0 4 rfl rfl (by decide)
  have ne_ao_t0 := own_nd nd 0 5 rfl rfl (by decide)
  have ne_ao_t1 := own_nd nd 0 6 rfl rfl (by decide)
  have ne_ao_f0 := own_nd nd 0 7 rfl rfl (by decide)
  have ne_ao_f1 := own_nd nd 0 8 rfl rfl (by decide)
  have g_bs := hge bs (List.mem_of_getElem? (i := 1) rfl)
  have ne_bs_bn := own_nd nd 1 2 rfl rfl (by decide)
  have ne_bs_bt := own_nd nd 1 3 rfl rfl (by decide)
  have ne_bs_bf := own_nd nd 1 4 rfl rfl (by decide)
  have ne_bs_t0 := own_nd nd 1 5 rfl rfl (by decide)
  have ne_bs_t1 := own_nd nd 1 6 rfl rfl (by decide)
  have ne_bs_f0 := own_nd nd 1 7 rfl rfl (by decide)
  have ne_bs_f1 := own_nd nd 1 8 rfl rfl (by decide)
  have g_bn := hge bn (List.mem_of_getElem? (i := 2) rfl)
  have ne_bn_bt := own_nd nd 2 3 rfl rfl (by decide)
  have ne_bn_bf := own_nd nd 2 4 rfl rfl (by decide)
  have ne_bn_t0 := own_nd nd 2 5 rfl rfl (by decide)
  have ne_bn_t1 := own_nd nd 2 6 rfl rfl (by decide)
  have ne_bn_f0 := own_nd nd 2 7 rfl rfl (by decide)
  have ne_bn_f1 := own_nd nd 2 8 rfl rfl (by decide)
  have g_bt := hge bt (List.mem_of_getElem? (i := 3) rfl)
  have ne_bt_bf := own_nd nd 3 4 rfl rfl (by decide)
  have ne_bt_t0 := own_nd nd 3 5 rfl rfl (by decide)
  have ne_bt_t1 := own_nd nd 3 6 rfl rfl (by decide)
  have ne_bt_f0 := own_nd nd 3 7 rfl rfl (by decide)
  have ne_bt_f1 := own_nd nd 3 8 rfl rfl (by decide)
  have g_bf := hge bf (List.mem_of_getElem? (i := 4) rfl)
  have ne_bf_t0 := own_nd nd 4 5 rfl rfl (by decide)
  have ne_bf_t1 := own_nd nd 4 6 rfl rfl (by decide)
  have ne_bf_f0 := own_nd nd 4 7 rfl rfl (by decide)
  have ne_bf_f1 := own_nd nd 4 8 rfl rfl (by decide)
  have g_t0 := hge t0 (List.mem_of_getElem? (i := 5) rfl)
  have ne_t0_t1 := own_nd nd 5 6 rfl rfl (by decide)
  have ne_t0_f0 := own_nd nd 5 7 rfl rfl (by decide)
  have ne_t0_f1 := own_nd nd 5 8 rfl rfl (by decide)
  have g_t1 := hge t1 (List.mem_of_getElem? (i := 6) rfl)
  have ne_t1_f0 := own_nd nd 6 7 rfl rfl (by decide)
  have ne_t1_f1 := own_nd nd 6 8 rfl rfl (by decide)
  have g_f0 := hge f0 (List.mem_of_getElem? (i := 7) rfl)
  have ne_f0_f1 := own_nd nd 7 8 rfl rfl (by decide)
  have g_f1 := hge f1 (List.mem_of_getElem? (i := 8) rfl)
  have st1 : own_Go p e below (s₁.setTop (mkF m 1 #[rv ao, iv ut, iv ud, iv uq, .unset] [(.ref ao)])) B0 := fun t kt => st0 t (by
    show own_At p e below s₁ m 0 #[rv ao, iv ut, iv ud, iv uq, .unset] [] _
    refine XS.aloadN X0.here hx rfl (hb hby d7_0) rfl rfl ?_
    show own_At p e below s₁ m 1 #[rv ao, iv ut, iv ud, iv uq, .unset] [(.ref ao)] _
    exact kt)
  obtain ⟨T2, X2, e2, ls2⟩ := getF X0 hx hZ hown (host := "") (Or.inl (hw _ (List.mem_of_getElem? (i := 44) rfl))) Via.refl e0 F_next (g := (mkF m 1 #[rv ao, iv ut, iv ud, iv uq, .unset] [(.ref ao)])) rfl rfl (hb hby d7_1)
  have st3 : own_Go p e below (T2.setTop (mkF m 4 #[rv ao, iv ut, iv ud, iv uq, .unset] [(.ref bn)])) B0 := fun t kt => st1 t (ls2 t kt)
  have st4 : own_Go p e below (T2.setTop (mkF m 6 #[rv ao, iv ut, iv ud, iv uq, .unset] [(.ref ao), (.int ud), (.ref bn)])) B0 := fun t kt => st3 t (by
    show own_At p e below T2 m 4 #[rv ao, iv ut, iv ud, iv uq, .unset] [(.ref bn)] _
    refine XS.iloadN X2.here hx rfl (hb hby d7_4) rfl ?_
    show own_At p e below T2 m 5 #[rv ao, iv ut, iv ud, iv uq, .unset] [(.int ud), (.ref bn)] _
    refine XS.aloadN X2.here hx rfl (hb hby d7_5) rfl rfl ?_
    show own_At p e below T2 m 6 #[rv ao, iv ut, iv ud, iv uq, .unset] [(.ref ao), (.int ud), (.ref bn)] _
    exact kt)
  obtain ⟨T5, X5, e5, ls5⟩ := getF X2 hx hZ hown (host := "") (Or.inl (hw _ (List.mem_of_getElem? (i := 19) rfl))) Via.refl e2 F_from (g := (mkF m 6 #[rv ao, iv ut, iv ud, iv uq, .unset] [(.ref ao), (.int ud), (.ref bn)])) rfl rfl (hb hby d7_6)
  have st6 : own_Go p e below (T5.setTop (mkF m 9 #[rv ao, iv ut, iv ud, iv uq, .unset] [(.int uf), (.int ud), (.ref bn)])) B0 := fun t kt => st4 t (ls5 t kt)
  have st7 : own_Go p e below (T5.setTop (mkF m 11 #[rv ao, iv ut, iv ud, iv uq, .unset] [(.int (ud - uf)), (.ref bn), (.int (ud - uf)), (.ref bn)])) B0 := fun t kt => st6 t (by
    show own_At p e below T5 m 9 #[rv ao, iv ut, iv ud, iv uq, .unset] [(.int uf), (.int ud), (.ref bn)] _
    refine XS.isub X5.here hx rfl (hb hby d7_9) rfl ?_
    show own_At p e below T5 m 10 #[rv ao, iv ut, iv ud, iv uq, .unset] [(.int (ud - uf)), (.ref bn)] _
    jvm_step X5.here [X5.here.top, hx, (hb hby d7_10), Value.category]
    show own_At p e below T5 m 11 #[rv ao, iv ut, iv ud, iv uq, .unset] [(.int (ud - uf)), (.ref bn), (.int (ud - uf)), (.ref bn)] _
    exact kt)
  have ls8 := own_iaload X5 hx hZ e5 A_bn (j := (ud - uf)) (i := 1) (by rw [hd]; decide) (by rw [hd]; decide) (by decide) (v := (.int (16383 : Int32))) (congrArg Value.int hnx) (g := (mkF m 11 #[rv ao, iv ut, iv ud, iv uq, .unset] [(.int (ud - uf)), (.ref bn), (.int (ud - uf)), (.ref bn)])) rfl rfl (hb hby d7_11)
  have st9 : own_Go p e below (T5.setTop (mkF m 12 #[rv ao, iv ut, iv ud, iv uq, .unset] [(.int (16383 : Int32)), (.int (ud - uf)), (.ref bn)])) B0 := fun t kt => st7 t (ls8 t kt)
  have st10 : own_Go p e below (T5.setTop (mkF m 15 #[rv ao, iv ut, iv ud, iv uq, .unset] [(.int (16384 : Int32)), (.int (ud - uf)), (.ref bn), (.int (16383 : Int32))])) B0 := fun t kt => st9 t (by
    show own_At p e below T5 m 12 #[rv ao, iv ut, iv ud, iv uq, .unset] [(.int (16383 : Int32)), (.int (ud - uf)), (.ref bn)] _
    jvm_step X5.here [X5.here.top, hx, (hb hby d7_12), Value.category]
    show own_At p e below T5 m 13 #[rv ao, iv ut, iv ud, iv uq, .unset] [(.int (16383 : Int32)), (.int (ud - uf)), (.ref bn), (.int (16383 : Int32))] _
    refine XS.iconst X5.here hx rfl (hb hby d7_13) ?_
    show own_At p e below T5 m 14 #[rv ao, iv ut, iv ud, iv uq, .unset] [(.int (1 : Int32)), (.int (16383 : Int32)), (.int (ud - uf)), (.ref bn), (.int (16383 : Int32))] _
    refine XS.iadd X5.here hx rfl (hb hby d7_14) rfl ?_
    show own_At p e below T5 m 15 #[rv ao, iv ut, iv ud, iv uq, .unset] [(.int ((16383 : Int32) + (1 : Int32))), (.int (ud - uf)), (.ref bn), (.int (16383 : Int32))] _
    rw [show ((16383 : Int32) + (1 : Int32)) = (16384 : Int32) from (by decide +kernel)]
    show own_At p e below T5 m 15 #[rv ao, iv ut, iv ud, iv uq, .unset] [(.int (16384 : Int32)), (.int (ud - uf)), (.ref bn), (.int (16383 : Int32))] _
    exact kt)
  obtain ⟨T11, h11, X11, e11, W11, B11, ls11⟩ := own_iastore X5 hx hZ e5 A_bn (j := (ud - uf)) (i := 1) (by rw [hd]; decide) (by rw [hd]; decide) (by decide) (g := (mkF m 15 #[rv ao, iv ut, iv ud, iv uq, .unset] [(.int (16384 : Int32)), (.int (ud - uf)), (.ref bn), (.int (16383 : Int32))])) rfl rfl (hb hby d7_15)
  have N11 := Fr.snoc X11 N0 g_bn
  have f12 := E_ao.wr W11
  have f13 := F_from.other W11 (Or.inl ne_ao_bn)
  have f14 := F_starts.other W11 (Or.inl ne_ao_bn)
  have f15 := F_next.other W11 (Or.inl ne_ao_bn)
  have f16 := F_tn.other W11 (Or.inl ne_ao_bn)
  have f17 := F_fq.other W11 (Or.inl ne_ao_bn)
  have f18 := A_bs.other W11 ne_bs_bn
  have f19 := A_bt.other W11 (Ne.symm ne_bn_bt)
  have f20 := A_bf.other W11 (Ne.symm ne_bn_bf)
  have f21 := A_t0.other W11 (Ne.symm ne_bn_t0)
  have f22 := A_t1.other W11 (Ne.symm ne_bn_t1)
  have f23 := A_f0.other W11 (Ne.symm ne_bn_f0)
  have f24 := A_f1.other W11 (Ne.symm ne_bn_f1)
  have z25 := Nat.le_trans Z0 (Keep.of_wr W11).1
  have f26 := B11.congr (g := (fun q => .int ((fun q => if q = 1 then 16384 else nx q) q))) (fun q _ => by by_cases z : q = 1 <;> simp [z])
  have st27 : own_Go p e below (T11.setTop (mkF m 16 #[rv ao, iv ut, iv ud, iv uq, .unset] [(.int (16383 : Int32))])) B0 := fun t kt => st10 t (ls11 t kt)
  have st28 : own_Go p e below (T11.setTop (mkF m 19 #[rv ao, iv ut, iv ud, iv uq, iv (16383 : Int32)] [(.ref ao)])) B0 := fun t kt => st27 t (by
    show own_At p e below T11 m 16 #[rv ao, iv ut, iv ud, iv uq, .unset] [(.int (16383 : Int32))] _
    refine XS.istore X11.here hx rfl (hb hby d7_16) rfl (l' := #[rv ao, iv ut, iv ud, iv uq, iv (16383 : Int32)]) rfl ?_
    show own_At p e below T11 m 18 #[rv ao, iv ut, iv ud, iv uq, iv (16383 : Int32)] [] _
    refine XS.aloadN X11.here hx rfl (hb hby d7_18) rfl rfl ?_
    show own_At p e below T11 m 19 #[rv ao, iv ut, iv ud, iv uq, iv (16383 : Int32)] [(.ref ao)] _
    exact kt)
  obtain ⟨T29, X29, e29, ls29⟩ := getF X11 hx hZ hown (host := "") (Or.inl (hw _ (List.mem_of_getElem? (i := 31) rfl))) Via.refl e11 f16 (g := (mkF m 19 #[rv ao, iv ut, iv ud, iv uq, iv (16383 : Int32)] [(.ref ao)])) rfl rfl (hb hby d7_19)
  have st30 : own_Go p e below (T29.setTop (mkF m 22 #[rv ao, iv ut, iv ud, iv uq, iv (16383 : Int32)] [(.ref bt)])) B0 := fun t kt => st28 t (ls29 t kt)
  have st31 : own_Go p e below (T29.setTop (mkF m 27 #[rv ao, iv ut, iv ud, iv uq, iv (16383 : Int32)] [(.int (0 : Int32)), (.ref bt)])) B0 := fun t kt => st30 t (by
    show own_At p e below T29 m 22 #[rv ao, iv ut, iv ud, iv uq, iv (16383 : Int32)] [(.ref bt)] _
    refine XS.iload X29.here hx rfl (hb hby d7_22) rfl ?_
    show own_At p e below T29 m 24 #[rv ao, iv ut, iv ud, iv uq, iv (16383 : Int32)] [(.int (16383 : Int32)), (.ref bt)] _
    refine XS.bipush X29.here hx rfl (hb hby d7_24) ?_
    show own_At p e below T29 m 26 #[rv ao, iv ut, iv ud, iv uq, iv (16383 : Int32)] [(.int (14 : Int32)), (.int (16383 : Int32)), (.ref bt)] _
    refine XS.iushr X29.here hx rfl (hb hby d7_26) rfl ?_
    show own_At p e below T29 m 27 #[rv ao, iv ut, iv ud, iv uq, iv (16383 : Int32)] [(.int (((16383 : Int32).toUInt32 >>> ((14 : Int32) &&& 31).toUInt32).toInt32)), (.ref bt)] _
    rw [show (((16383 : Int32).toUInt32 >>> ((14 : Int32) &&& 31).toUInt32).toInt32) = (0 : Int32) from (by decide +kernel)]
    show own_At p e below T29 m 27 #[rv ao, iv ut, iv ud, iv uq, iv (16383 : Int32)] [(.int (0 : Int32)), (.ref bt)] _
    exact kt)
  have ls32 := own_aaload (ty := (.array .int)) rfl X29 hx hZ e29 f19 (j := (0 : Int32)) (i := 0) (by decide) (by decide) (by decide) (v := (.ref t0)) (rfl) (g := (mkF m 27 #[rv ao, iv ut, iv ud, iv uq, iv (16383 : Int32)] [(.int (0 : Int32)), (.ref bt)])) rfl rfl (hb hby d7_27)
  have st33 : own_Go p e below (T29.setTop (mkF m 28 #[rv ao, iv ut, iv ud, iv uq, iv (16383 : Int32)] [(.ref t0)])) B0 := fun t kt => st31 t (ls32 t kt)
  have st34 : own_Go p e below (T29.setTop (mkF m 35 #[rv ao, iv ut, iv ud, iv uq, iv (16383 : Int32)] [(.int ut), (.int (16383 : Int32)), (.ref t0)])) B0 := fun t kt => st33 t (by
    show own_At p e below T29 m 28 #[rv ao, iv ut, iv ud, iv uq, iv (16383 : Int32)] [(.ref t0)] _
    refine XS.iload X29.here hx rfl (hb hby d7_28) rfl ?_
    show own_At p e below T29 m 30 #[rv ao, iv ut, iv ud, iv uq, iv (16383 : Int32)] [(.int (16383 : Int32)), (.ref t0)] _
    refine XS.sipush X29.here hx rfl (hb hby d7_30) ?_
    show own_At p e below T29 m 33 #[rv ao, iv ut, iv ud, iv uq, iv (16383 : Int32)] [(.int (16383 : Int32)), (.int (16383 : Int32)), (.ref t0)] _
    refine XS.iand X29.here hx rfl (hb hby d7_33) rfl ?_
    show own_At p e below T29 m 34 #[rv ao, iv ut, iv ud, iv uq, iv (16383 : Int32)] [(.int ((16383 : Int32) &&& (16383 : Int32))), (.ref t0)] _
    rw [show ((16383 : Int32) &&& (16383 : Int32)) = (16383 : Int32) from (by decide +kernel)]
    show own_At p e below T29 m 34 #[rv ao, iv ut, iv ud, iv uq, iv (16383 : Int32)] [(.int (16383 : Int32)), (.ref t0)] _
    refine XS.iloadN X29.here hx rfl (hb hby d7_34) rfl ?_
    show own_At p e below T29 m 35 #[rv ao, iv ut, iv ud, iv uq, iv (16383 : Int32)] [(.int ut), (.int (16383 : Int32)), (.ref t0)] _
    exact kt)
  obtain ⟨T35, h35, X35, e35, W35, B35, ls35⟩ := own_iastore X29 hx hZ e29 f21 (j := (16383 : Int32)) (i := 16383) (by decide) (by decide) (by decide) (g := (mkF m 35 #[rv ao, iv ut, iv ud, iv uq, iv (16383 : Int32)] [(.int ut), (.int (16383 : Int32)), (.ref t0)])) rfl rfl (hb hby d7_35)
  have N35 := Fr.snoc X35 N11 g_t0
  have f36 := f12.wr W35
  have f37 := f13.other W35 (Or.inl ne_ao_t0)
  have f38 := f14.other W35 (Or.inl ne_ao_t0)
  have f39 := f15.other W35 (Or.inl ne_ao_t0)
  have f40 := f16.other W35 (Or.inl ne_ao_t0)
  have f41 := f17.other W35 (Or.inl ne_ao_t0)
  have f42 := f18.other W35 ne_bs_t0
  have f43 := f19.other W35 ne_bt_t0
  have f44 := f20.other W35 ne_bf_t0
  have f45 := f22.other W35 (Ne.symm ne_t0_t1)
  have f46 := f23.other W35 (Ne.symm ne_t0_f0)
  have f47 := f24.other W35 (Ne.symm ne_t0_f1)
  have f48 := f26.other W35 ne_bn_t0
  have z49 := Nat.le_trans z25 (Keep.of_wr W35).1
  have f50 := B35.congr (g := (fun q => .int ((fun q => if q = 16383 then ut else T q) (q)))) (fun q hq => by
      by_cases z : q = 16383
      · subst z; simp
      · have z2 : ¬ q = 16383 := by omega
        simp [z, z2])
  have st51 : own_Go p e below (T35.setTop (mkF m 36 #[rv ao, iv ut, iv ud, iv uq, iv (16383 : Int32)] [])) B0 := fun t kt => st34 t (ls35 t kt)
  have f52 := f45.congr (g := (fun q => .int ((fun q => if q = 16383 then ut else T q) (16384 + q)))) (fun q hq => by
      have z2 : ¬ 16384 + q = 16383 := by omega
      simp [z2])
  have st53 : own_Go p e below (T35.setTop (mkF m 37 #[rv ao, iv ut, iv ud, iv uq, iv (16383 : Int32)] [(.ref ao)])) B0 := fun t kt => st51 t (by
    show own_At p e below T35 m 36 #[rv ao, iv ut, iv ud, iv uq, iv (16383 : Int32)] [] _
    refine XS.aloadN X35.here hx rfl (hb hby d7_36) rfl rfl ?_
    show own_At p e below T35 m 37 #[rv ao, iv ut, iv ud, iv uq, iv (16383 : Int32)] [(.ref ao)] _
    exact kt)
  obtain ⟨T54, X54, e54, ls54⟩ := getF X35 hx hZ hown (host := "") (Or.inl (hw _ (List.mem_of_getElem? (i := 33) rfl))) Via.refl e35 f41 (g := (mkF m 37 #[rv ao, iv ut, iv ud, iv uq, iv (16383 : Int32)] [(.ref ao)])) rfl rfl (hb hby d7_37)
  have st55 : own_Go p e below (T54.setTop (mkF m 40 #[rv ao, iv ut, iv ud, iv uq, iv (16383 : Int32)] [(.ref bf)])) B0 := fun t kt => st53 t (ls54 t kt)
  have st56 : own_Go p e below (T54.setTop (mkF m 45 #[rv ao, iv ut, iv ud, iv uq, iv (16383 : Int32)] [(.int (0 : Int32)), (.ref bf)])) B0 := fun t kt => st55 t (by
    show own_At p e below T54 m 40 #[rv ao, iv ut, iv ud, iv uq, iv (16383 : Int32)] [(.ref bf)] _
    refine XS.iload X54.here hx rfl (hb hby d7_40) rfl ?_
    show own_At p e below T54 m 42 #[rv ao, iv ut, iv ud, iv uq, iv (16383 : Int32)] [(.int (16383 : Int32)), (.ref bf)] _
    refine XS.bipush X54.here hx rfl (hb hby d7_42) ?_
    show own_At p e below T54 m 44 #[rv ao, iv ut, iv ud, iv uq, iv (16383 : Int32)] [(.int (14 : Int32)), (.int (16383 : Int32)), (.ref bf)] _
    refine XS.iushr X54.here hx rfl (hb hby d7_44) rfl ?_
    show own_At p e below T54 m 45 #[rv ao, iv ut, iv ud, iv uq, iv (16383 : Int32)] [(.int (((16383 : Int32).toUInt32 >>> ((14 : Int32) &&& 31).toUInt32).toInt32)), (.ref bf)] _
    rw [show (((16383 : Int32).toUInt32 >>> ((14 : Int32) &&& 31).toUInt32).toInt32) = (0 : Int32) from (by decide +kernel)]
    show own_At p e below T54 m 45 #[rv ao, iv ut, iv ud, iv uq, iv (16383 : Int32)] [(.int (0 : Int32)), (.ref bf)] _
    exact kt)
  have ls57 := own_aaload (ty := (.array .int)) rfl X54 hx hZ e54 f44 (j := (0 : Int32)) (i := 0) (by decide) (by decide) (by decide) (v := (.ref f0)) (rfl) (g := (mkF m 45 #[rv ao, iv ut, iv ud, iv uq, iv (16383 : Int32)] [(.int (0 : Int32)), (.ref bf)])) rfl rfl (hb hby d7_45)
  have st58 : own_Go p e below (T54.setTop (mkF m 46 #[rv ao, iv ut, iv ud, iv uq, iv (16383 : Int32)] [(.ref f0)])) B0 := fun t kt => st56 t (ls57 t kt)
  have st59 : own_Go p e below (T54.setTop (mkF m 53 #[rv ao, iv ut, iv ud, iv uq, iv (16383 : Int32)] [(.int uq), (.int (16383 : Int32)), (.ref f0)])) B0 := fun t kt => st58 t (by
    show own_At p e below T54 m 46 #[rv ao, iv ut, iv ud, iv uq, iv (16383 : Int32)] [(.ref f0)] _
    refine XS.iload X54.here hx rfl (hb hby d7_46) rfl ?_
    show own_At p e below T54 m 48 #[rv ao, iv ut, iv ud, iv uq, iv (16383 : Int32)] [(.int (16383 : Int32)), (.ref f0)] _
    refine XS.sipush X54.here hx rfl (hb hby d7_48) ?_
    show own_At p e below T54 m 51 #[rv ao, iv ut, iv ud, iv uq, iv (16383 : Int32)] [(.int (16383 : Int32)), (.int (16383 : Int32)), (.ref f0)] _
    refine XS.iand X54.here hx rfl (hb hby d7_51) rfl ?_
    show own_At p e below T54 m 52 #[rv ao, iv ut, iv ud, iv uq, iv (16383 : Int32)] [(.int ((16383 : Int32) &&& (16383 : Int32))), (.ref f0)] _
    rw [show ((16383 : Int32) &&& (16383 : Int32)) = (16383 : Int32) from (by decide +kernel)]
    show own_At p e below T54 m 52 #[rv ao, iv ut, iv ud, iv uq, iv (16383 : Int32)] [(.int (16383 : Int32)), (.ref f0)] _
    refine XS.iloadN X54.here hx rfl (hb hby d7_52) rfl ?_
    show own_At p e below T54 m 53 #[rv ao, iv ut, iv ud, iv uq, iv (16383 : Int32)] [(.int uq), (.int (16383 : Int32)), (.ref f0)] _
    exact kt)
  obtain ⟨T60, h60, X60, e60, W60, B60, ls60⟩ := own_iastore X54 hx hZ e54 f46 (j := (16383 : Int32)) (i := 16383) (by decide) (by decide) (by decide) (g := (mkF m 53 #[rv ao, iv ut, iv ud, iv uq, iv (16383 : Int32)] [(.int uq), (.int (16383 : Int32)), (.ref f0)])) rfl rfl (hb hby d7_53)
  have N60 := Fr.snoc X60 N35 g_f0
  have f61 := f36.wr W60
  have f62 := f37.other W60 (Or.inl ne_ao_f0)
  have f63 := f38.other W60 (Or.inl ne_ao_f0)
  have f64 := f39.other W60 (Or.inl ne_ao_f0)
  have f65 := f40.other W60 (Or.inl ne_ao_f0)
  have f66 := f41.other W60 (Or.inl ne_ao_f0)
  have f67 := f42.other W60 ne_bs_f0
  have f68 := f43.other W60 ne_bt_f0
  have f69 := f44.other W60 ne_bf_f0
  have f70 := f52.other W60 ne_t1_f0
  have f71 := f47.other W60 (Ne.symm ne_f0_f1)
  have f72 := f48.other W60 ne_bn_f0
  have f73 := f50.other W60 ne_t0_f0
  have z74 := Nat.le_trans z49 (Keep.of_wr W60).1
  have f75 := B60.congr (g := (fun q => .int ((fun q => if q = 16383 then uq else F q) (q)))) (fun q hq => by
      by_cases z : q = 16383
      · subst z; simp
      · have z2 : ¬ q = 16383 := by omega
        simp [z, z2])
  have st76 : own_Go p e below (T60.setTop (mkF m 54 #[rv ao, iv ut, iv ud, iv uq, iv (16383 : Int32)] [])) B0 := fun t kt => st59 t (ls60 t kt)
  have f77 := f71.congr (g := (fun q => .int ((fun q => if q = 16383 then uq else F q) (16384 + q)))) (fun q hq => by
      have z2 : ¬ 16384 + q = 16383 := by omega
      simp [z2])
  obtain ⟨fs, hr, hrun, hended, hW, hsame⟩ := X60.leave (v := none) (fun _ => rfl)
  subst hB0
  refine ⟨_, _, st76 _ ?_, hrun, hended, _, _, rfl, ?_, ⟨_, rfl⟩, hW, hsame.mono (by decide) (by decide)⟩
  · exact X60.returnOut hx Bd.returns (hb hby d7_54) hr
  · show Q_rm_add_1_16383 Z ao ut ud uq uf nx T F h0 n0 _ T60.heap _
    rw [e60]
    exact ⟨rfl, N60, z74, f61, f62, bs, bn, bt, bf, t0, t1, f0, f1, hge, nd, f63, f64, f65, f66, f67, f72, f68, f73, f70, f69, f75, f77⟩
def Q_rm_add_1_16384 (Z : State) (ao : Addr) (ut : Int32) (ud : Int32) (uq : Int32) (uf : Int32) (nx : Nat → Int32) (T : Nat → Int32) (F : Nat → Int32) (h0 : Heap) (n0 : Nat) (v : Option Value) (h : Heap) (L : List Loc) : Prop := v = none ∧ Fr n0 L ∧ n0 ≤ h.size ∧ own_VB Z h n0 ao uf (fun q => if q = 1 then 16385 else nx q) (fun q => if q = 16384 then ut else T q) (fun q => if q = 16384 then uq else F q)
set_option maxRecDepth 65536 in
set_option maxHeartbeats 40000000 in
theorem rm_add_1_16384 (l : Launch) (Z : State) (a0 : Array Value) (hw : ∀ d ∈ tables_1, d.before a0 Z = true) (ws : List Jvm.Cond) (ao : Addr) (ut : Int32) (ud : Int32) (uq : Int32) (uf : Int32) (nx : Nat → Int32) (T : Nat → Int32) (F : Nat → Int32) (h0 : Heap) (n0 : Nat) (Z0 : n0 ≤ h0.size) (V : own_VB Z h0 n0 ao uf nx T F) (hd : ud - uf = 1) (hnx : nx 1 = 16384) :
    MetFree l (⟨"com/example/ranked_text_search/rankedtextsearch/MemoryTermVectors", "add", "(III)V"⟩ : MethodName) (head1 (Jvm.Cond.code (⟨"com/example/ranked_text_search/rankedtextsearch/MemoryTermVectors", "add", "(III)V"⟩ : MethodName) prog_50_method_4_code 5 none :: ws) ({ frames := 0, cells := 0, slots := 0, locals := 0 } : Room)) (fun a U => a = #[(.ref ao), (.int ut), (.int ud), (.int uq)] ∧ Z.Warmed39 U.vm ∧ U.heap = h0) (fun _ _ _ _ _ => True) (fun _ U o U' => ∃ v L, o = .returned v ∧ Q_rm_add_1_16384 Z ao ut ud uq uf nx T F h0 n0 v U'.heap L ∧ FrameEnd U o U' L ({ frames := 0, cells := 0, slots := 0, locals := 0 } : Room).cells ({ frames := 0, cells := 0, slots := 0, locals := 0 } : Room).slots) := by
  refine MetFree.of_bodySF (plainFor_of_name own_pn2) hisR ?_
  intro p e s m args below meth c s₁ Bd hml0 hP hK
  obtain ⟨rfl, hZ, hh⟩ := hP
  have hx := Bd.exec
  have hby := Bd.bytes
  have hml : c.maxLocals = 5 := hml0
  have hown : s.vm.findClass "com/example/ranked_text_search/rankedtextsearch/MemoryTermVectors" = some m.cls := findClass_of_methodNamed Bd.named
  have hnm := (name_of_methodNamed Bd.named Bd.method).1
  have X0 : Stand p l e ({ frames := 0, cells := 0, slots := 0, locals := 0 } : Room) s m #[(.ref ao), (.int ut), (.int ud), (.int uq)] below meth c s₁ [] 0 0 := Stand.of_body Bd
  have e0 : s₁.heap = h0 := by rw [← hh, Bd.state]; rfl
  have N0 := Fr.nil n0
  obtain ⟨B0, hB0⟩ : ∃ B, B = (s₁.setTop (entryFrame m #[(.ref ao), (.int ut), (.int ud), (.int uq)] 5)) := ⟨_, rfl⟩
  have st0 : own_Go p e below (s₁.setTop (mkF m 0 #[rv ao, iv ut, iv ud, iv uq, .unset] [])) B0 := fun t k => hB0 ▸ castTop (own_ef7_RIII m ao ut ud uq) k
  obtain ⟨E_ao, F_from, bs, bn, bt, bf, t0, t1, f0, f1, hge, nd, F_starts, F_next, F_tn, F_fq, A_bs, A_bn, A_bt, A_t0, A_t1, A_bf, A_f0, A_f1⟩ := V
  have g_ao := hge ao (List.mem_of_getElem? (i := 0) rfl)
  have ne_ao_bs := own_nd nd 0 1 rfl rfl (by decide)
  have ne_ao_bn := own_nd nd 0 2 rfl rfl (by decide)
  have ne_ao_bt := own_nd nd 0 3 rfl rfl (by decide)
  have ne_ao_bf := own_nd nd 0 4 rfl rfl (by decide)
  have ne_ao_t0 := own_nd nd 0 5 rfl rfl (by decide)
  have ne_ao_t1 := own_nd nd 0 6 rfl rfl (by decide)
  have ne_ao_f0 := own_nd nd 0 7 rfl rfl (by decide)
  have ne_ao_f1 := own_nd nd 0 8 rfl rfl (by decide)
  have g_bs := hge bs (List.mem_of_getElem? (i := 1) rfl)
  have ne_bs_bn := own_nd nd 1 2 rfl rfl (by decide)
  have ne_bs_bt := own_nd nd 1 3 rfl rfl (by decide)
  have ne_bs_bf := own_nd nd 1 4 rfl rfl (by decide)
  have ne_bs_t0 := own_nd nd 1 5 rfl rfl (by decide)
  have ne_bs_t1 := own_nd nd 1 6 rfl rfl (by decide)
  have ne_bs_f0 := own_nd nd 1 7 rfl rfl (by decide)
  have ne_bs_f1 := own_nd nd 1 8 rfl rfl (by decide)
  have g_bn := hge bn (List.mem_of_getElem? (i := 2) rfl)
  have ne_bn_bt := own_nd nd 2 3 rfl rfl (by decide)
  have ne_bn_bf := own_nd nd 2 4 rfl rfl (by decide)
  have ne_bn_t0 := own_nd nd 2 5 rfl rfl (by decide)
  have ne_bn_t1 := own_nd nd 2 6 rfl rfl (by decide)
  have ne_bn_f0 := own_nd nd 2 7 rfl rfl (by decide)
  have ne_bn_f1 := own_nd nd 2 8 rfl rfl (by decide)
  have g_bt := hge bt (List.mem_of_getElem? (i := 3) rfl)
  have ne_bt_bf := own_nd nd 3 4 rfl rfl (by decide)
  have ne_bt_t0 := own_nd nd 3 5 rfl rfl (by decide)
  have ne_bt_t1 := own_nd nd 3 6 rfl rfl (by decide)
  have ne_bt_f0 := own_nd nd 3 7 rfl rfl (by decide)
  have ne_bt_f1 := own_nd nd 3 8 rfl rfl (by decide)
  have g_bf := hge bf (List.mem_of_getElem? (i := 4) rfl)
  have ne_bf_t0 := own_nd nd 4 5 rfl rfl (by decide)
  have ne_bf_t1 := own_nd nd 4 6 rfl rfl (by decide)
  have ne_bf_f0 := own_nd nd 4 7 rfl rfl (by decide)
  have ne_bf_f1 := own_nd nd 4 8 rfl rfl (by decide)
  have g_t0 := hge t0 (List.mem_of_getElem? (i := 5) rfl)
  have ne_t0_t1 := own_nd nd 5 6 rfl rfl (by decide)
  have ne_t0_f0 := own_nd nd 5 7 rfl rfl (by decide)
  have ne_t0_f1 := own_nd nd 5 8 rfl rfl (by decide)
  have g_t1 := hge t1 (List.mem_of_getElem? (i := 6) rfl)
  have ne_t1_f0 := own_nd nd 6 7 rfl rfl (by decide)
  have ne_t1_f1 := own_nd nd 6 8 rfl rfl (by decide)
  have g_f0 := hge f0 (List.mem_of_getElem? (i := 7) rfl)
  have ne_f0_f1 := own_nd nd 7 8 rfl rfl (by decide)
  have g_f1 := hge f1 (List.mem_of_getElem? (i := 8) rfl)
  have st1 : own_Go p e below (s₁.setTop (mkF m 1 #[rv ao, iv ut, iv ud, iv uq, .unset] [(.ref ao)])) B0 := fun t kt => st0 t (by
    show own_At p e below s₁ m 0 #[rv ao, iv ut, iv ud, iv uq, .unset] [] _
    refine XS.aloadN X0.here hx rfl (hb hby d7_0) rfl rfl ?_
    show own_At p e below s₁ m 1 #[rv ao, iv ut, iv ud, iv uq, .unset] [(.ref ao)] _
    exact kt)
  obtain ⟨T2, X2, e2, ls2⟩ := getF X0 hx hZ hown (host := "") (Or.inl (hw _ (List.mem_of_getElem? (i := 44) rfl))) Via.refl e0 F_next (g := (mkF m 1 #[rv ao, iv ut, iv ud, iv uq, .unset] [(.ref ao)])) rfl rfl (hb hby d7_1)
  have st3 : own_Go p e below (T2.setTop (mkF m 4 #[rv ao, iv ut, iv ud, iv uq, .unset] [(.ref bn)])) B0 := fun t kt => st1 t (ls2 t kt)
  have st4 : own_Go p e below (T2.setTop (mkF m 6 #[rv ao, iv ut, iv ud, iv uq, .unset] [(.ref ao), (.int ud), (.ref bn)])) B0 := fun t kt => st3 t (by
    show own_At p e below T2 m 4 #[rv ao, iv ut, iv ud, iv uq, .unset] [(.ref bn)] _
    refine XS.iloadN X2.here hx rfl (hb hby d7_4) rfl ?_
    show own_At p e below T2 m 5 #[rv ao, iv ut, iv ud, iv uq, .unset] [(.int ud), (.ref bn)] _
    refine XS.aloadN X2.here hx rfl (hb hby d7_5) rfl rfl ?_
    show own_At p e below T2 m 6 #[rv ao, iv ut, iv ud, iv uq, .unset] [(.ref ao), (.int ud), (.ref bn)] _
    exact kt)
  obtain ⟨T5, X5, e5, ls5⟩ := getF X2 hx hZ hown (host := "") (Or.inl (hw _ (List.mem_of_getElem? (i := 19) rfl))) Via.refl e2 F_from (g := (mkF m 6 #[rv ao, iv ut, iv ud, iv uq, .unset] [(.ref ao), (.int ud), (.ref bn)])) rfl rfl (hb hby d7_6)
  have st6 : own_Go p e below (T5.setTop (mkF m 9 #[rv ao, iv ut, iv ud, iv uq, .unset] [(.int uf), (.int ud), (.ref bn)])) B0 := fun t kt => st4 t (ls5 t kt)
  have st7 : own_Go p e below (T5.setTop (mkF m 11 #[rv ao, iv ut, iv ud, iv uq, .unset] [(.int (ud - uf)), (.ref bn), (.int (ud - uf)), (.ref bn)])) B0 := fun t kt => st6 t (by
    show own_At p e below T5 m 9 #[rv ao, iv ut, iv ud, iv uq, .unset] [(.int uf), (.int ud), (.ref bn)] _
    refine XS.isub X5.here hx rfl (hb hby d7_9) rfl ?_
    show own_At p e below T5 m 10 #[rv ao, iv ut, iv ud, iv uq, .unset] [(.int (ud - uf)), (.ref bn)] _
    jvm_step X5.here [X5.here.top, hx, (hb hby d7_10), Value.category]
    show own_At p e below T5 m 11 #[rv ao, iv ut, iv ud, iv uq, .unset] [(.int (ud - uf)), (.ref bn), (.int (ud - uf)), (.ref bn)] _
    exact kt)
  have ls8 := own_iaload X5 hx hZ e5 A_bn (j := (ud - uf)) (i := 1) (by rw [hd]; decide) (by rw [hd]; decide) (by decide) (v := (.int (16384 : Int32))) (congrArg Value.int hnx) (g := (mkF m 11 #[rv ao, iv ut, iv ud, iv uq, .unset] [(.int (ud - uf)), (.ref bn), (.int (ud - uf)), (.ref bn)])) rfl rfl (hb hby d7_11)
  have st9 : own_Go p e below (T5.setTop (mkF m 12 #[rv ao, iv ut, iv ud, iv uq, .unset] [(.int (16384 : Int32)), (.int (ud - uf)), (.ref bn)])) B0 := fun t kt => st7 t (ls8 t kt)
  have st10 : own_Go p e below (T5.setTop (mkF m 15 #[rv ao, iv ut, iv ud, iv uq, .unset] [(.int (16385 : Int32)), (.int (ud - uf)), (.ref bn), (.int (16384 : Int32))])) B0 := fun t kt => st9 t (by
    show own_At p e below T5 m 12 #[rv ao, iv ut, iv ud, iv uq, .unset] [(.int (16384 : Int32)), (.int (ud - uf)), (.ref bn)] _
    jvm_step X5.here [X5.here.top, hx, (hb hby d7_12), Value.category]
    show own_At p e below T5 m 13 #[rv ao, iv ut, iv ud, iv uq, .unset] [(.int (16384 : Int32)), (.int (ud - uf)), (.ref bn), (.int (16384 : Int32))] _
    refine XS.iconst X5.here hx rfl (hb hby d7_13) ?_
    show own_At p e below T5 m 14 #[rv ao, iv ut, iv ud, iv uq, .unset] [(.int (1 : Int32)), (.int (16384 : Int32)), (.int (ud - uf)), (.ref bn), (.int (16384 : Int32))] _
    refine XS.iadd X5.here hx rfl (hb hby d7_14) rfl ?_
    show own_At p e below T5 m 15 #[rv ao, iv ut, iv ud, iv uq, .unset] [(.int ((16384 : Int32) + (1 : Int32))), (.int (ud - uf)), (.ref bn), (.int (16384 : Int32))] _
    rw [show ((16384 : Int32) + (1 : Int32)) = (16385 : Int32) from (by decide +kernel)]
    show own_At p e below T5 m 15 #[rv ao, iv ut, iv ud, iv uq, .unset] [(.int (16385 : Int32)), (.int (ud - uf)), (.ref bn), (.int (16384 : Int32))] _
    exact kt)
  obtain ⟨T11, h11, X11, e11, W11, B11, ls11⟩ := own_iastore X5 hx hZ e5 A_bn (j := (ud - uf)) (i := 1) (by rw [hd]; decide) (by rw [hd]; decide) (by decide) (g := (mkF m 15 #[rv ao, iv ut, iv ud, iv uq, .unset] [(.int (16385 : Int32)), (.int (ud - uf)), (.ref bn), (.int (16384 : Int32))])) rfl rfl (hb hby d7_15)
  have N11 := Fr.snoc X11 N0 g_bn
  have f12 := E_ao.wr W11
  have f13 := F_from.other W11 (Or.inl ne_ao_bn)
  have f14 := F_starts.other W11 (Or.inl ne_ao_bn)
  have f15 := F_next.other W11 (Or.inl ne_ao_bn)
  have f16 := F_tn.other W11 (Or.inl ne_ao_bn)
  have f17 := F_fq.other W11 (Or.inl ne_ao_bn)
  have f18 := A_bs.other W11 ne_bs_bn
  have f19 := A_bt.other W11 (Ne.symm ne_bn_bt)
  have f20 := A_bf.other W11 (Ne.symm ne_bn_bf)
  have f21 := A_t0.other W11 (Ne.symm ne_bn_t0)
  have f22 := A_t1.other W11 (Ne.symm ne_bn_t1)
  have f23 := A_f0.other W11 (Ne.symm ne_bn_f0)
  have f24 := A_f1.other W11 (Ne.symm ne_bn_f1)
  have z25 := Nat.le_trans Z0 (Keep.of_wr W11).1
  have f26 := B11.congr (g := (fun q => .int ((fun q => if q = 1 then 16385 else nx q) q))) (fun q _ => by by_cases z : q = 1 <;> simp [z])
  have st27 : own_Go p e below (T11.setTop (mkF m 16 #[rv ao, iv ut, iv ud, iv uq, .unset] [(.int (16384 : Int32))])) B0 := fun t kt => st10 t (ls11 t kt)
  have st28 : own_Go p e below (T11.setTop (mkF m 19 #[rv ao, iv ut, iv ud, iv uq, iv (16384 : Int32)] [(.ref ao)])) B0 := fun t kt => st27 t (by
    show own_At p e below T11 m 16 #[rv ao, iv ut, iv ud, iv uq, .unset] [(.int (16384 : Int32))] _
    refine XS.istore X11.here hx rfl (hb hby d7_16) rfl (l' := #[rv ao, iv ut, iv ud, iv uq, iv (16384 : Int32)]) rfl ?_
    show own_At p e below T11 m 18 #[rv ao, iv ut, iv ud, iv uq, iv (16384 : Int32)] [] _
    refine XS.aloadN X11.here hx rfl (hb hby d7_18) rfl rfl ?_
    show own_At p e below T11 m 19 #[rv ao, iv ut, iv ud, iv uq, iv (16384 : Int32)] [(.ref ao)] _
    exact kt)
  obtain ⟨T29, X29, e29, ls29⟩ := getF X11 hx hZ hown (host := "") (Or.inl (hw _ (List.mem_of_getElem? (i := 31) rfl))) Via.refl e11 f16 (g := (mkF m 19 #[rv ao, iv ut, iv ud, iv uq, iv (16384 : Int32)] [(.ref ao)])) rfl rfl (hb hby d7_19)
  have st30 : own_Go p e below (T29.setTop (mkF m 22 #[rv ao, iv ut, iv ud, iv uq, iv (16384 : Int32)] [(.ref bt)])) B0 := fun t kt => st28 t (ls29 t kt)
  have st31 : own_Go p e below (T29.setTop (mkF m 27 #[rv ao, iv ut, iv ud, iv uq, iv (16384 : Int32)] [(.int (1 : Int32)), (.ref bt)])) B0 := fun t kt => st30 t (by
    show own_At p e below T29 m 22 #[rv ao, iv ut, iv ud, iv uq, iv (16384 : Int32)] [(.ref bt)] _
    refine XS.iload X29.here hx rfl (hb hby d7_22) rfl ?_
    show own_At p e below T29 m 24 #[rv ao, iv ut, iv ud, iv uq, iv (16384 : Int32)] [(.int (16384 : Int32)), (.ref bt)] _
    refine XS.bipush X29.here hx rfl (hb hby d7_24) ?_
    show own_At p e below T29 m 26 #[rv ao, iv ut, iv ud, iv uq, iv (16384 : Int32)] [(.int (14 : Int32)), (.int (16384 : Int32)), (.ref bt)] _
    refine XS.iushr X29.here hx rfl (hb hby d7_26) rfl ?_
    show own_At p e below T29 m 27 #[rv ao, iv ut, iv ud, iv uq, iv (16384 : Int32)] [(.int (((16384 : Int32).toUInt32 >>> ((14 : Int32) &&& 31).toUInt32).toInt32)), (.ref bt)] _
    rw [show (((16384 : Int32).toUInt32 >>> ((14 : Int32) &&& 31).toUInt32).toInt32) = (1 : Int32) from (by decide +kernel)]
    show own_At p e below T29 m 27 #[rv ao, iv ut, iv ud, iv uq, iv (16384 : Int32)] [(.int (1 : Int32)), (.ref bt)] _
    exact kt)
  have ls32 := own_aaload (ty := (.array .int)) rfl X29 hx hZ e29 f19 (j := (1 : Int32)) (i := 1) (by decide) (by decide) (by decide) (v := (.ref t1)) (rfl) (g := (mkF m 27 #[rv ao, iv ut, iv ud, iv uq, iv (16384 : Int32)] [(.int (1 : Int32)), (.ref bt)])) rfl rfl (hb hby d7_27)
  have st33 : own_Go p e below (T29.setTop (mkF m 28 #[rv ao, iv ut, iv ud, iv uq, iv (16384 : Int32)] [(.ref t1)])) B0 := fun t kt => st31 t (ls32 t kt)
  have st34 : own_Go p e below (T29.setTop (mkF m 35 #[rv ao, iv ut, iv ud, iv uq, iv (16384 : Int32)] [(.int ut), (.int (0 : Int32)), (.ref t1)])) B0 := fun t kt => st33 t (by
    show own_At p e below T29 m 28 #[rv ao, iv ut, iv ud, iv uq, iv (16384 : Int32)] [(.ref t1)] _
    refine XS.iload X29.here hx rfl (hb hby d7_28) rfl ?_
    show own_At p e below T29 m 30 #[rv ao, iv ut, iv ud, iv uq, iv (16384 : Int32)] [(.int (16384 : Int32)), (.ref t1)] _
    refine XS.sipush X29.here hx rfl (hb hby d7_30) ?_
    show own_At p e below T29 m 33 #[rv ao, iv ut, iv ud, iv uq, iv (16384 : Int32)] [(.int (16383 : Int32)), (.int (16384 : Int32)), (.ref t1)] _
    refine XS.iand X29.here hx rfl (hb hby d7_33) rfl ?_
    show own_At p e below T29 m 34 #[rv ao, iv ut, iv ud, iv uq, iv (16384 : Int32)] [(.int ((16384 : Int32) &&& (16383 : Int32))), (.ref t1)] _
    rw [show ((16384 : Int32) &&& (16383 : Int32)) = (0 : Int32) from (by decide +kernel)]
    show own_At p e below T29 m 34 #[rv ao, iv ut, iv ud, iv uq, iv (16384 : Int32)] [(.int (0 : Int32)), (.ref t1)] _
    refine XS.iloadN X29.here hx rfl (hb hby d7_34) rfl ?_
    show own_At p e below T29 m 35 #[rv ao, iv ut, iv ud, iv uq, iv (16384 : Int32)] [(.int ut), (.int (0 : Int32)), (.ref t1)] _
    exact kt)
  obtain ⟨T35, h35, X35, e35, W35, B35, ls35⟩ := own_iastore X29 hx hZ e29 f22 (j := (0 : Int32)) (i := 0) (by decide) (by decide) (by decide) (g := (mkF m 35 #[rv ao, iv ut, iv ud, iv uq, iv (16384 : Int32)] [(.int ut), (.int (0 : Int32)), (.ref t1)])) rfl rfl (hb hby d7_35)
  have N35 := Fr.snoc X35 N11 g_t1
  have f36 := f12.wr W35
  have f37 := f13.other W35 (Or.inl ne_ao_t1)
  have f38 := f14.other W35 (Or.inl ne_ao_t1)
  have f39 := f15.other W35 (Or.inl ne_ao_t1)
  have f40 := f16.other W35 (Or.inl ne_ao_t1)
  have f41 := f17.other W35 (Or.inl ne_ao_t1)
  have f42 := f18.other W35 ne_bs_t1
  have f43 := f19.other W35 ne_bt_t1
  have f44 := f20.other W35 ne_bf_t1
  have f45 := f21.other W35 ne_t0_t1
  have f46 := f23.other W35 (Ne.symm ne_t1_f0)
  have f47 := f24.other W35 (Ne.symm ne_t1_f1)
  have f48 := f26.other W35 ne_bn_t1
  have z49 := Nat.le_trans z25 (Keep.of_wr W35).1
  have f50 := B35.congr (g := (fun q => .int ((fun q => if q = 16384 then ut else T q) (16384 + q)))) (fun q hq => by
      by_cases z : q = 0
      · subst z; simp
      · have z2 : ¬ 16384 + q = 16384 := by omega
        simp [z, z2])
  have st51 : own_Go p e below (T35.setTop (mkF m 36 #[rv ao, iv ut, iv ud, iv uq, iv (16384 : Int32)] [])) B0 := fun t kt => st34 t (ls35 t kt)
  have f52 := f45.congr (g := (fun q => .int ((fun q => if q = 16384 then ut else T q) (q)))) (fun q hq => by
      have z2 : ¬ q = 16384 := by omega
      simp [z2])
  have st53 : own_Go p e below (T35.setTop (mkF m 37 #[rv ao, iv ut, iv ud, iv uq, iv (16384 : Int32)] [(.ref ao)])) B0 := fun t kt => st51 t (by
    show own_At p e below T35 m 36 #[rv ao, iv ut, iv ud, iv uq, iv (16384 : Int32)] [] _
    refine XS.aloadN X35.here hx rfl (hb hby d7_36) rfl rfl ?_
    show own_At p e below T35 m 37 #[rv ao, iv ut, iv ud, iv uq, iv (16384 : Int32)] [(.ref ao)] _
    exact kt)
  obtain ⟨T54, X54, e54, ls54⟩ := getF X35 hx hZ hown (host := "") (Or.inl (hw _ (List.mem_of_getElem? (i := 33) rfl))) Via.refl e35 f41 (g := (mkF m 37 #[rv ao, iv ut, iv ud, iv uq, iv (16384 : Int32)] [(.ref ao)])) rfl rfl (hb hby d7_37)
  have st55 : own_Go p e below (T54.setTop (mkF m 40 #[rv ao, iv ut, iv ud, iv uq, iv (16384 : Int32)] [(.ref bf)])) B0 := fun t kt => st53 t (ls54 t kt)
  have st56 : own_Go p e below (T54.setTop (mkF m 45 #[rv ao, iv ut, iv ud, iv uq, iv (16384 : Int32)] [(.int (1 : Int32)), (.ref bf)])) B0 := fun t kt => st55 t (by
    show own_At p e below T54 m 40 #[rv ao, iv ut, iv ud, iv uq, iv (16384 : Int32)] [(.ref bf)] _
    refine XS.iload X54.here hx rfl (hb hby d7_40) rfl ?_
    show own_At p e below T54 m 42 #[rv ao, iv ut, iv ud, iv uq, iv (16384 : Int32)] [(.int (16384 : Int32)), (.ref bf)] _
    refine XS.bipush X54.here hx rfl (hb hby d7_42) ?_
    show own_At p e below T54 m 44 #[rv ao, iv ut, iv ud, iv uq, iv (16384 : Int32)] [(.int (14 : Int32)), (.int (16384 : Int32)), (.ref bf)] _
    refine XS.iushr X54.here hx rfl (hb hby d7_44) rfl ?_
    show own_At p e below T54 m 45 #[rv ao, iv ut, iv ud, iv uq, iv (16384 : Int32)] [(.int (((16384 : Int32).toUInt32 >>> ((14 : Int32) &&& 31).toUInt32).toInt32)), (.ref bf)] _
    rw [show (((16384 : Int32).toUInt32 >>> ((14 : Int32) &&& 31).toUInt32).toInt32) = (1 : Int32) from (by decide +kernel)]
    show own_At p e below T54 m 45 #[rv ao, iv ut, iv ud, iv uq, iv (16384 : Int32)] [(.int (1 : Int32)), (.ref bf)] _
    exact kt)
  have ls57 := own_aaload (ty := (.array .int)) rfl X54 hx hZ e54 f44 (j := (1 : Int32)) (i := 1) (by decide) (by decide) (by decide) (v := (.ref f1)) (rfl) (g := (mkF m 45 #[rv ao, iv ut, iv ud, iv uq, iv (16384 : Int32)] [(.int (1 : Int32)), (.ref bf)])) rfl rfl (hb hby d7_45)
  have st58 : own_Go p e below (T54.setTop (mkF m 46 #[rv ao, iv ut, iv ud, iv uq, iv (16384 : Int32)] [(.ref f1)])) B0 := fun t kt => st56 t (ls57 t kt)
  have st59 : own_Go p e below (T54.setTop (mkF m 53 #[rv ao, iv ut, iv ud, iv uq, iv (16384 : Int32)] [(.int uq), (.int (0 : Int32)), (.ref f1)])) B0 := fun t kt => st58 t (by
    show own_At p e below T54 m 46 #[rv ao, iv ut, iv ud, iv uq, iv (16384 : Int32)] [(.ref f1)] _
    refine XS.iload X54.here hx rfl (hb hby d7_46) rfl ?_
    show own_At p e below T54 m 48 #[rv ao, iv ut, iv ud, iv uq, iv (16384 : Int32)] [(.int (16384 : Int32)), (.ref f1)] _
    refine XS.sipush X54.here hx rfl (hb hby d7_48) ?_
    show own_At p e below T54 m 51 #[rv ao, iv ut, iv ud, iv uq, iv (16384 : Int32)] [(.int (16383 : Int32)), (.int (16384 : Int32)), (.ref f1)] _
    refine XS.iand X54.here hx rfl (hb hby d7_51) rfl ?_
    show own_At p e below T54 m 52 #[rv ao, iv ut, iv ud, iv uq, iv (16384 : Int32)] [(.int ((16384 : Int32) &&& (16383 : Int32))), (.ref f1)] _
    rw [show ((16384 : Int32) &&& (16383 : Int32)) = (0 : Int32) from (by decide +kernel)]
    show own_At p e below T54 m 52 #[rv ao, iv ut, iv ud, iv uq, iv (16384 : Int32)] [(.int (0 : Int32)), (.ref f1)] _
    refine XS.iloadN X54.here hx rfl (hb hby d7_52) rfl ?_
    show own_At p e below T54 m 53 #[rv ao, iv ut, iv ud, iv uq, iv (16384 : Int32)] [(.int uq), (.int (0 : Int32)), (.ref f1)] _
    exact kt)
  obtain ⟨T60, h60, X60, e60, W60, B60, ls60⟩ := own_iastore X54 hx hZ e54 f47 (j := (0 : Int32)) (i := 0) (by decide) (by decide) (by decide) (g := (mkF m 53 #[rv ao, iv ut, iv ud, iv uq, iv (16384 : Int32)] [(.int uq), (.int (0 : Int32)), (.ref f1)])) rfl rfl (hb hby d7_53)
  have N60 := Fr.snoc X60 N35 g_f1
  have f61 := f36.wr W60
  have f62 := f37.other W60 (Or.inl ne_ao_f1)
  have f63 := f38.other W60 (Or.inl ne_ao_f1)
  have f64 := f39.other W60 (Or.inl ne_ao_f1)
  have f65 := f40.other W60 (Or.inl ne_ao_f1)
  have f66 := f41.other W60 (Or.inl ne_ao_f1)
  have f67 := f42.other W60 ne_bs_f1
  have f68 := f43.other W60 ne_bt_f1
  have f69 := f44.other W60 ne_bf_f1
  have f70 := f52.other W60 ne_t0_f1
  have f71 := f46.other W60 ne_f0_f1
  have f72 := f48.other W60 ne_bn_f1
  have f73 := f50.other W60 ne_t1_f1
  have z74 := Nat.le_trans z49 (Keep.of_wr W60).1
  have f75 := B60.congr (g := (fun q => .int ((fun q => if q = 16384 then uq else F q) (16384 + q)))) (fun q hq => by
      by_cases z : q = 0
      · subst z; simp
      · have z2 : ¬ 16384 + q = 16384 := by omega
        simp [z, z2])
  have st76 : own_Go p e below (T60.setTop (mkF m 54 #[rv ao, iv ut, iv ud, iv uq, iv (16384 : Int32)] [])) B0 := fun t kt => st59 t (ls60 t kt)
  have f77 := f71.congr (g := (fun q => .int ((fun q => if q = 16384 then uq else F q) (q)))) (fun q hq => by
      have z2 : ¬ q = 16384 := by omega
      simp [z2])
  obtain ⟨fs, hr, hrun, hended, hW, hsame⟩ := X60.leave (v := none) (fun _ => rfl)
  subst hB0
  refine ⟨_, _, st76 _ ?_, hrun, hended, _, _, rfl, ?_, ⟨_, rfl⟩, hW, hsame.mono (by decide) (by decide)⟩
  · exact X60.returnOut hx Bd.returns (hb hby d7_54) hr
  · show Q_rm_add_1_16384 Z ao ut ud uq uf nx T F h0 n0 _ T60.heap _
    rw [e60]
    exact ⟨rfl, N60, z74, f61, f62, bs, bn, bt, bf, t0, t1, f0, f1, hge, nd, f63, f64, f65, f66, f67, f72, f68, f70, f73, f69, f77, f75⟩
def Q_rm_add_2_16385 (Z : State) (ao : Addr) (ut : Int32) (ud : Int32) (uq : Int32) (uf : Int32) (nx : Nat → Int32) (T : Nat → Int32) (F : Nat → Int32) (h0 : Heap) (n0 : Nat) (v : Option Value) (h : Heap) (L : List Loc) : Prop := v = none ∧ Fr n0 L ∧ n0 ≤ h.size ∧ own_VB Z h n0 ao uf (fun q => if q = 2 then 16386 else nx q) (fun q => if q = 16385 then ut else T q) (fun q => if q = 16385 then uq else F q)
set_option maxRecDepth 65536 in
set_option maxHeartbeats 40000000 in
theorem rm_add_2_16385 (l : Launch) (Z : State) (a0 : Array Value) (hw : ∀ d ∈ tables_1, d.before a0 Z = true) (ws : List Jvm.Cond) (ao : Addr) (ut : Int32) (ud : Int32) (uq : Int32) (uf : Int32) (nx : Nat → Int32) (T : Nat → Int32) (F : Nat → Int32) (h0 : Heap) (n0 : Nat) (Z0 : n0 ≤ h0.size) (V : own_VB Z h0 n0 ao uf nx T F) (hd : ud - uf = 2) (hnx : nx 2 = 16385) :
    MetFree l (⟨"com/example/ranked_text_search/rankedtextsearch/MemoryTermVectors", "add", "(III)V"⟩ : MethodName) (head1 (Jvm.Cond.code (⟨"com/example/ranked_text_search/rankedtextsearch/MemoryTermVectors", "add", "(III)V"⟩ : MethodName) prog_50_method_4_code 5 none :: ws) ({ frames := 0, cells := 0, slots := 0, locals := 0 } : Room)) (fun a U => a = #[(.ref ao), (.int ut), (.int ud), (.int uq)] ∧ Z.Warmed39 U.vm ∧ U.heap = h0) (fun _ _ _ _ _ => True) (fun _ U o U' => ∃ v L, o = .returned v ∧ Q_rm_add_2_16385 Z ao ut ud uq uf nx T F h0 n0 v U'.heap L ∧ FrameEnd U o U' L ({ frames := 0, cells := 0, slots := 0, locals := 0 } : Room).cells ({ frames := 0, cells := 0, slots := 0, locals := 0 } : Room).slots) := by
  refine MetFree.of_bodySF (plainFor_of_name own_pn2) hisR ?_
  intro p e s m args below meth c s₁ Bd hml0 hP hK
  obtain ⟨rfl, hZ, hh⟩ := hP
  have hx := Bd.exec
  have hby := Bd.bytes
  have hml : c.maxLocals = 5 := hml0
  have hown : s.vm.findClass "com/example/ranked_text_search/rankedtextsearch/MemoryTermVectors" = some m.cls := findClass_of_methodNamed Bd.named
  have hnm := (name_of_methodNamed Bd.named Bd.method).1
  have X0 : Stand p l e ({ frames := 0, cells := 0, slots := 0, locals := 0 } : Room) s m #[(.ref ao), (.int ut), (.int ud), (.int uq)] below meth c s₁ [] 0 0 := Stand.of_body Bd
  have e0 : s₁.heap = h0 := by rw [← hh, Bd.state]; rfl
  have N0 := Fr.nil n0
  obtain ⟨B0, hB0⟩ : ∃ B, B = (s₁.setTop (entryFrame m #[(.ref ao), (.int ut), (.int ud), (.int uq)] 5)) := ⟨_, rfl⟩
  have st0 : own_Go p e below (s₁.setTop (mkF m 0 #[rv ao, iv ut, iv ud, iv uq, .unset] [])) B0 := fun t k => hB0 ▸ castTop (own_ef7_RIII m ao ut ud uq) k
  obtain ⟨E_ao, F_from, bs, bn, bt, bf, t0, t1, f0, f1, hge, nd, F_starts, F_next, F_tn, F_fq, A_bs, A_bn, A_bt, A_t0, A_t1, A_bf, A_f0, A_f1⟩ := V
  have g_ao := hge ao (List.mem_of_getElem? (i := 0) rfl)
  have ne_ao_bs := own_nd nd 0 1 rfl rfl (by decide)
  have ne_ao_bn := own_nd nd 0 2 rfl rfl (by decide)
  have ne_ao_bt := own_nd nd 0 3 rfl rfl (by decide)
  have ne_ao_bf := own_nd nd 0 4 rfl rfl (by decide)
  have ne_ao_t0 := own_nd nd 0 5 rfl rfl (by decide)
  have ne_ao_t1 := own_nd nd 0 6 rfl rfl (by decide)
  have ne_ao_f0 := own_nd nd 0 7 rfl rfl (by decide)
  have ne_ao_f1 := own_nd nd 0 8 rfl rfl (by decide)
  have g_bs := hge bs (List.mem_of_getElem? (i := 1) rfl)
  have ne_bs_bn := own_nd nd 1 2 rfl rfl (by decide)
  have ne_bs_bt := own_nd nd 1 3 rfl rfl (by decide)
  have ne_bs_bf := own_nd nd 1 4 rfl rfl (by decide)
  have ne_bs_t0 := own_nd nd 1 5 rfl rfl (by decide)
  have ne_bs_t1 := own_nd nd 1 6 rfl rfl (by decide)
  have ne_bs_f0 := own_nd nd 1 7 rfl rfl (by decide)
  have ne_bs_f1 := own_nd nd 1 8 rfl rfl (by decide)
  have g_bn := hge bn (List.mem_of_getElem? (i := 2) rfl)
  have ne_bn_bt := own_nd nd 2 3 rfl rfl (by decide)
  have ne_bn_bf := own_nd nd 2 4 rfl rfl (by decide)
  have ne_bn_t0 := own_nd nd 2 5 rfl rfl (by decide)
  have ne_bn_t1 := own_nd nd 2 6 rfl rfl (by decide)
  have ne_bn_f0 := own_nd nd 2 7 rfl rfl (by decide)
  have ne_bn_f1 := own_nd nd 2 8 rfl rfl (by decide)
  have g_bt := hge bt (List.mem_of_getElem? (i := 3) rfl)
  have ne_bt_bf := own_nd nd 3 4 rfl rfl (by decide)
  have ne_bt_t0 := own_nd nd 3 5 rfl rfl (by decide)
  have ne_bt_t1 := own_nd nd 3 6 rfl rfl (by decide)
  have ne_bt_f0 := own_nd nd 3 7 rfl rfl (by decide)
  have ne_bt_f1 := own_nd nd 3 8 rfl rfl (by decide)
  have g_bf := hge bf (List.mem_of_getElem? (i := 4) rfl)
  have ne_bf_t0 := own_nd nd 4 5 rfl rfl (by decide)
  have ne_bf_t1 := own_nd nd 4 6 rfl rfl (by decide)
  have ne_bf_f0 := own_nd nd 4 7 rfl rfl (by decide)
  have ne_bf_f1 := own_nd nd 4 8 rfl rfl (by decide)
  have g_t0 := hge t0 (List.mem_of_getElem? (i := 5) rfl)
  have ne_t0_t1 := own_nd nd 5 6 rfl rfl (by decide)
  have ne_t0_f0 := own_nd nd 5 7 rfl rfl (by decide)
  have ne_t0_f1 := own_nd nd 5 8 rfl rfl (by decide)
  have g_t1 := hge t1 (List.mem_of_getElem? (i := 6) rfl)
  have ne_t1_f0 := own_nd nd 6 7 rfl rfl (by decide)
  have ne_t1_f1 := own_nd nd 6 8 rfl rfl (by decide)
  have g_f0 := hge f0 (List.mem_of_getElem? (i := 7) rfl)
  have ne_f0_f1 := own_nd nd 7 8 rfl rfl (by decide)
  have g_f1 := hge f1 (List.mem_of_getElem? (i := 8) rfl)
  have st1 : own_Go p e below (s₁.setTop (mkF m 1 #[rv ao, iv ut, iv ud, iv uq, .unset] [(.ref ao)])) B0 := fun t kt => st0 t (by
    show own_At p e below s₁ m 0 #[rv ao, iv ut, iv ud, iv uq, .unset] [] _
    refine XS.aloadN X0.here hx rfl (hb hby d7_0) rfl rfl ?_
    show own_At p e below s₁ m 1 #[rv ao, iv ut, iv ud, iv uq, .unset] [(.ref ao)] _
    exact kt)
  obtain ⟨T2, X2, e2, ls2⟩ := getF X0 hx hZ hown (host := "") (Or.inl (hw _ (List.mem_of_getElem? (i := 44) rfl))) Via.refl e0 F_next (g := (mkF m 1 #[rv ao, iv ut, iv ud, iv uq, .unset] [(.ref ao)])) rfl rfl (hb hby d7_1)
  have st3 : own_Go p e below (T2.setTop (mkF m 4 #[rv ao, iv ut, iv ud, iv uq, .unset] [(.ref bn)])) B0 := fun t kt => st1 t (ls2 t kt)
  have st4 : own_Go p e below (T2.setTop (mkF m 6 #[rv ao, iv ut, iv ud, iv uq, .unset] [(.ref ao), (.int ud), (.ref bn)])) B0 := fun t kt => st3 t (by
    show own_At p e below T2 m 4 #[rv ao, iv ut, iv ud, iv uq, .unset] [(.ref bn)] _
    refine XS.iloadN X2.here hx rfl (hb hby d7_4) rfl ?_
    show own_At p e below T2 m 5 #[rv ao, iv ut, iv ud, iv uq, .unset] [(.int ud), (.ref bn)] _
    refine XS.aloadN X2.here hx rfl (hb hby d7_5) rfl rfl ?_
    show own_At p e below T2 m 6 #[rv ao, iv ut, iv ud, iv uq, .unset] [(.ref ao), (.int ud), (.ref bn)] _
    exact kt)
  obtain ⟨T5, X5, e5, ls5⟩ := getF X2 hx hZ hown (host := "") (Or.inl (hw _ (List.mem_of_getElem? (i := 19) rfl))) Via.refl e2 F_from (g := (mkF m 6 #[rv ao, iv ut, iv ud, iv uq, .unset] [(.ref ao), (.int ud), (.ref bn)])) rfl rfl (hb hby d7_6)
  have st6 : own_Go p e below (T5.setTop (mkF m 9 #[rv ao, iv ut, iv ud, iv uq, .unset] [(.int uf), (.int ud), (.ref bn)])) B0 := fun t kt => st4 t (ls5 t kt)
  have st7 : own_Go p e below (T5.setTop (mkF m 11 #[rv ao, iv ut, iv ud, iv uq, .unset] [(.int (ud - uf)), (.ref bn), (.int (ud - uf)), (.ref bn)])) B0 := fun t kt => st6 t (by
    show own_At p e below T5 m 9 #[rv ao, iv ut, iv ud, iv uq, .unset] [(.int uf), (.int ud), (.ref bn)] _
    refine XS.isub X5.here hx rfl (hb hby d7_9) rfl ?_
    show own_At p e below T5 m 10 #[rv ao, iv ut, iv ud, iv uq, .unset] [(.int (ud - uf)), (.ref bn)] _
    jvm_step X5.here [X5.here.top, hx, (hb hby d7_10), Value.category]
    show own_At p e below T5 m 11 #[rv ao, iv ut, iv ud, iv uq, .unset] [(.int (ud - uf)), (.ref bn), (.int (ud - uf)), (.ref bn)] _
    exact kt)
  have ls8 := own_iaload X5 hx hZ e5 A_bn (j := (ud - uf)) (i := 2) (by rw [hd]; decide) (by rw [hd]; decide) (by decide) (v := (.int (16385 : Int32))) (congrArg Value.int hnx) (g := (mkF m 11 #[rv ao, iv ut, iv ud, iv uq, .unset] [(.int (ud - uf)), (.ref bn), (.int (ud - uf)), (.ref bn)])) rfl rfl (hb hby d7_11)
  have st9 : own_Go p e below (T5.setTop (mkF m 12 #[rv ao, iv ut, iv ud, iv uq, .unset] [(.int (16385 : Int32)), (.int (ud - uf)), (.ref bn)])) B0 := fun t kt => st7 t (ls8 t kt)
  have st10 : own_Go p e below (T5.setTop (mkF m 15 #[rv ao, iv ut, iv ud, iv uq, .unset] [(.int (16386 : Int32)), (.int (ud - uf)), (.ref bn), (.int (16385 : Int32))])) B0 := fun t kt => st9 t (by
    show own_At p e below T5 m 12 #[rv ao, iv ut, iv ud, iv uq, .unset] [(.int (16385 : Int32)), (.int (ud - uf)), (.ref bn)] _
    jvm_step X5.here [X5.here.top, hx, (hb hby d7_12), Value.category]
    show own_At p e below T5 m 13 #[rv ao, iv ut, iv ud, iv uq, .unset] [(.int (16385 : Int32)), (.int (ud - uf)), (.ref bn), (.int (16385 : Int32))] _
    refine XS.iconst X5.here hx rfl (hb hby d7_13) ?_
    show own_At p e below T5 m 14 #[rv ao, iv ut, iv ud, iv uq, .unset] [(.int (1 : Int32)), (.int (16385 : Int32)), (.int (ud - uf)), (.ref bn), (.int (16385 : Int32))] _
    refine XS.iadd X5.here hx rfl (hb hby d7_14) rfl ?_
    show own_At p e below T5 m 15 #[rv ao, iv ut, iv ud, iv uq, .unset] [(.int ((16385 : Int32) + (1 : Int32))), (.int (ud - uf)), (.ref bn), (.int (16385 : Int32))] _
    rw [show ((16385 : Int32) + (1 : Int32)) = (16386 : Int32) from (by decide +kernel)]
    show own_At p e below T5 m 15 #[rv ao, iv ut, iv ud, iv uq, .unset] [(.int (16386 : Int32)), (.int (ud - uf)), (.ref bn), (.int (16385 : Int32))] _
    exact kt)
  obtain ⟨T11, h11, X11, e11, W11, B11, ls11⟩ := own_iastore X5 hx hZ e5 A_bn (j := (ud - uf)) (i := 2) (by rw [hd]; decide) (by rw [hd]; decide) (by decide) (g := (mkF m 15 #[rv ao, iv ut, iv ud, iv uq, .unset] [(.int (16386 : Int32)), (.int (ud - uf)), (.ref bn), (.int (16385 : Int32))])) rfl rfl (hb hby d7_15)
  have N11 := Fr.snoc X11 N0 g_bn
  have f12 := E_ao.wr W11
  have f13 := F_from.other W11 (Or.inl ne_ao_bn)
  have f14 := F_starts.other W11 (Or.inl ne_ao_bn)
  have f15 := F_next.other W11 (Or.inl ne_ao_bn)
  have f16 := F_tn.other W11 (Or.inl ne_ao_bn)
  have f17 := F_fq.other W11 (Or.inl ne_ao_bn)
  have f18 := A_bs.other W11 ne_bs_bn
  have f19 := A_bt.other W11 (Ne.symm ne_bn_bt)
  have f20 := A_bf.other W11 (Ne.symm ne_bn_bf)
  have f21 := A_t0.other W11 (Ne.symm ne_bn_t0)
  have f22 := A_t1.other W11 (Ne.symm ne_bn_t1)
  have f23 := A_f0.other W11 (Ne.symm ne_bn_f0)
  have f24 := A_f1.other W11 (Ne.symm ne_bn_f1)
  have z25 := Nat.le_trans Z0 (Keep.of_wr W11).1
  have f26 := B11.congr (g := (fun q => .int ((fun q => if q = 2 then 16386 else nx q) q))) (fun q _ => by by_cases z : q = 2 <;> simp [z])
  have st27 : own_Go p e below (T11.setTop (mkF m 16 #[rv ao, iv ut, iv ud, iv uq, .unset] [(.int (16385 : Int32))])) B0 := fun t kt => st10 t (ls11 t kt)
  have st28 : own_Go p e below (T11.setTop (mkF m 19 #[rv ao, iv ut, iv ud, iv uq, iv (16385 : Int32)] [(.ref ao)])) B0 := fun t kt => st27 t (by
    show own_At p e below T11 m 16 #[rv ao, iv ut, iv ud, iv uq, .unset] [(.int (16385 : Int32))] _
    refine XS.istore X11.here hx rfl (hb hby d7_16) rfl (l' := #[rv ao, iv ut, iv ud, iv uq, iv (16385 : Int32)]) rfl ?_
    show own_At p e below T11 m 18 #[rv ao, iv ut, iv ud, iv uq, iv (16385 : Int32)] [] _
    refine XS.aloadN X11.here hx rfl (hb hby d7_18) rfl rfl ?_
    show own_At p e below T11 m 19 #[rv ao, iv ut, iv ud, iv uq, iv (16385 : Int32)] [(.ref ao)] _
    exact kt)
  obtain ⟨T29, X29, e29, ls29⟩ := getF X11 hx hZ hown (host := "") (Or.inl (hw _ (List.mem_of_getElem? (i := 31) rfl))) Via.refl e11 f16 (g := (mkF m 19 #[rv ao, iv ut, iv ud, iv uq, iv (16385 : Int32)] [(.ref ao)])) rfl rfl (hb hby d7_19)
  have st30 : own_Go p e below (T29.setTop (mkF m 22 #[rv ao, iv ut, iv ud, iv uq, iv (16385 : Int32)] [(.ref bt)])) B0 := fun t kt => st28 t (ls29 t kt)
  have st31 : own_Go p e below (T29.setTop (mkF m 27 #[rv ao, iv ut, iv ud, iv uq, iv (16385 : Int32)] [(.int (1 : Int32)), (.ref bt)])) B0 := fun t kt => st30 t (by
    show own_At p e below T29 m 22 #[rv ao, iv ut, iv ud, iv uq, iv (16385 : Int32)] [(.ref bt)] _
    refine XS.iload X29.here hx rfl (hb hby d7_22) rfl ?_
    show own_At p e below T29 m 24 #[rv ao, iv ut, iv ud, iv uq, iv (16385 : Int32)] [(.int (16385 : Int32)), (.ref bt)] _
    refine XS.bipush X29.here hx rfl (hb hby d7_24) ?_
    show own_At p e below T29 m 26 #[rv ao, iv ut, iv ud, iv uq, iv (16385 : Int32)] [(.int (14 : Int32)), (.int (16385 : Int32)), (.ref bt)] _
    refine XS.iushr X29.here hx rfl (hb hby d7_26) rfl ?_
    show own_At p e below T29 m 27 #[rv ao, iv ut, iv ud, iv uq, iv (16385 : Int32)] [(.int (((16385 : Int32).toUInt32 >>> ((14 : Int32) &&& 31).toUInt32).toInt32)), (.ref bt)] _
    rw [show (((16385 : Int32).toUInt32 >>> ((14 : Int32) &&& 31).toUInt32).toInt32) = (1 : Int32) from (by decide +kernel)]
    show own_At p e below T29 m 27 #[rv ao, iv ut, iv ud, iv uq, iv (16385 : Int32)] [(.int (1 : Int32)), (.ref bt)] _
    exact kt)
  have ls32 := own_aaload (ty := (.array .int)) rfl X29 hx hZ e29 f19 (j := (1 : Int32)) (i := 1) (by decide) (by decide) (by decide) (v := (.ref t1)) (rfl) (g := (mkF m 27 #[rv ao, iv ut, iv ud, iv uq, iv (16385 : Int32)] [(.int (1 : Int32)), (.ref bt)])) rfl rfl (hb hby d7_27)
  have st33 : own_Go p e below (T29.setTop (mkF m 28 #[rv ao, iv ut, iv ud, iv uq, iv (16385 : Int32)] [(.ref t1)])) B0 := fun t kt => st31 t (ls32 t kt)
  have st34 : own_Go p e below (T29.setTop (mkF m 35 #[rv ao, iv ut, iv ud, iv uq, iv (16385 : Int32)] [(.int ut), (.int (1 : Int32)), (.ref t1)])) B0 := fun t kt => st33 t (by
    show own_At p e below T29 m 28 #[rv ao, iv ut, iv ud, iv uq, iv (16385 : Int32)] [(.ref t1)] _
    refine XS.iload X29.here hx rfl (hb hby d7_28) rfl ?_
    show own_At p e below T29 m 30 #[rv ao, iv ut, iv ud, iv uq, iv (16385 : Int32)] [(.int (16385 : Int32)), (.ref t1)] _
    refine XS.sipush X29.here hx rfl (hb hby d7_30) ?_
    show own_At p e below T29 m 33 #[rv ao, iv ut, iv ud, iv uq, iv (16385 : Int32)] [(.int (16383 : Int32)), (.int (16385 : Int32)), (.ref t1)] _
    refine XS.iand X29.here hx rfl (hb hby d7_33) rfl ?_
    show own_At p e below T29 m 34 #[rv ao, iv ut, iv ud, iv uq, iv (16385 : Int32)] [(.int ((16385 : Int32) &&& (16383 : Int32))), (.ref t1)] _
    rw [show ((16385 : Int32) &&& (16383 : Int32)) = (1 : Int32) from (by decide +kernel)]
    show own_At p e below T29 m 34 #[rv ao, iv ut, iv ud, iv uq, iv (16385 : Int32)] [(.int (1 : Int32)), (.ref t1)] _
    refine XS.iloadN X29.here hx rfl (hb hby d7_34) rfl ?_
    show own_At p e below T29 m 35 #[rv ao, iv ut, iv ud, iv uq, iv (16385 : Int32)] [(.int ut), (.int (1 : Int32)), (.ref t1)] _
    exact kt)
  obtain ⟨T35, h35, X35, e35, W35, B35, ls35⟩ := own_iastore X29 hx hZ e29 f22 (j := (1 : Int32)) (i := 1) (by decide) (by decide) (by decide) (g := (mkF m 35 #[rv ao, iv ut, iv ud, iv uq, iv (16385 : Int32)] [(.int ut), (.int (1 : Int32)), (.ref t1)])) rfl rfl (hb hby d7_35)
  have N35 := Fr.snoc X35 N11 g_t1
  have f36 := f12.wr W35
  have f37 := f13.other W35 (Or.inl ne_ao_t1)
  have f38 := f14.other W35 (Or.inl ne_ao_t1)
  have f39 := f15.other W35 (Or.inl ne_ao_t1)
  have f40 := f16.other W35 (Or.inl ne_ao_t1)
  have f41 := f17.other W35 (Or.inl ne_ao_t1)
  have f42 := f18.other W35 ne_bs_t1
  have f43 := f19.other W35 ne_bt_t1
  have f44 := f20.other W35 ne_bf_t1
  have f45 := f21.other W35 ne_t0_t1
  have f46 := f23.other W35 (Ne.symm ne_t1_f0)
  have f47 := f24.other W35 (Ne.symm ne_t1_f1)
  have f48 := f26.other W35 ne_bn_t1
  have z49 := Nat.le_trans z25 (Keep.of_wr W35).1
  have f50 := B35.congr (g := (fun q => .int ((fun q => if q = 16385 then ut else T q) (16384 + q)))) (fun q hq => by
      by_cases z : q = 1
      · subst z; simp
      · have z2 : ¬ 16384 + q = 16385 := by omega
        simp [z, z2])
  have st51 : own_Go p e below (T35.setTop (mkF m 36 #[rv ao, iv ut, iv ud, iv uq, iv (16385 : Int32)] [])) B0 := fun t kt => st34 t (ls35 t kt)
  have f52 := f45.congr (g := (fun q => .int ((fun q => if q = 16385 then ut else T q) (q)))) (fun q hq => by
      have z2 : ¬ q = 16385 := by omega
      simp [z2])
  have st53 : own_Go p e below (T35.setTop (mkF m 37 #[rv ao, iv ut, iv ud, iv uq, iv (16385 : Int32)] [(.ref ao)])) B0 := fun t kt => st51 t (by
    show own_At p e below T35 m 36 #[rv ao, iv ut, iv ud, iv uq, iv (16385 : Int32)] [] _
    refine XS.aloadN X35.here hx rfl (hb hby d7_36) rfl rfl ?_
    show own_At p e below T35 m 37 #[rv ao, iv ut, iv ud, iv uq, iv (16385 : Int32)] [(.ref ao)] _
    exact kt)
  obtain ⟨T54, X54, e54, ls54⟩ := getF X35 hx hZ hown (host := "") (Or.inl (hw _ (List.mem_of_getElem? (i := 33) rfl))) Via.refl e35 f41 (g := (mkF m 37 #[rv ao, iv ut, iv ud, iv uq, iv (16385 : Int32)] [(.ref ao)])) rfl rfl (hb hby d7_37)
  have st55 : own_Go p e below (T54.setTop (mkF m 40 #[rv ao, iv ut, iv ud, iv uq, iv (16385 : Int32)] [(.ref bf)])) B0 := fun t kt => st53 t (ls54 t kt)
  have st56 : own_Go p e below (T54.setTop (mkF m 45 #[rv ao, iv ut, iv ud, iv uq, iv (16385 : Int32)] [(.int (1 : Int32)), (.ref bf)])) B0 := fun t kt => st55 t (by
    show own_At p e below T54 m 40 #[rv ao, iv ut, iv ud, iv uq, iv (16385 : Int32)] [(.ref bf)] _
    refine XS.iload X54.here hx rfl (hb hby d7_40) rfl ?_
    show own_At p e below T54 m 42 #[rv ao, iv ut, iv ud, iv uq, iv (16385 : Int32)] [(.int (16385 : Int32)), (.ref bf)] _
    refine XS.bipush X54.here hx rfl (hb hby d7_42) ?_
    show own_At p e below T54 m 44 #[rv ao, iv ut, iv ud, iv uq, iv (16385 : Int32)] [(.int (14 : Int32)), (.int (16385 : Int32)), (.ref bf)] _
    refine XS.iushr X54.here hx rfl (hb hby d7_44) rfl ?_
    show own_At p e below T54 m 45 #[rv ao, iv ut, iv ud, iv uq, iv (16385 : Int32)] [(.int (((16385 : Int32).toUInt32 >>> ((14 : Int32) &&& 31).toUInt32).toInt32)), (.ref bf)] _
    rw [show (((16385 : Int32).toUInt32 >>> ((14 : Int32) &&& 31).toUInt32).toInt32) = (1 : Int32) from (by decide +kernel)]
    show own_At p e below T54 m 45 #[rv ao, iv ut, iv ud, iv uq, iv (16385 : Int32)] [(.int (1 : Int32)), (.ref bf)] _
    exact kt)
  have ls57 := own_aaload (ty := (.array .int)) rfl X54 hx hZ e54 f44 (j := (1 : Int32)) (i := 1) (by decide) (by decide) (by decide) (v := (.ref f1)) (rfl) (g := (mkF m 45 #[rv ao, iv ut, iv ud, iv uq, iv (16385 : Int32)] [(.int (1 : Int32)), (.ref bf)])) rfl rfl (hb hby d7_45)
  have st58 : own_Go p e below (T54.setTop (mkF m 46 #[rv ao, iv ut, iv ud, iv uq, iv (16385 : Int32)] [(.ref f1)])) B0 := fun t kt => st56 t (ls57 t kt)
  have st59 : own_Go p e below (T54.setTop (mkF m 53 #[rv ao, iv ut, iv ud, iv uq, iv (16385 : Int32)] [(.int uq), (.int (1 : Int32)), (.ref f1)])) B0 := fun t kt => st58 t (by
    show own_At p e below T54 m 46 #[rv ao, iv ut, iv ud, iv uq, iv (16385 : Int32)] [(.ref f1)] _
    refine XS.iload X54.here hx rfl (hb hby d7_46) rfl ?_
    show own_At p e below T54 m 48 #[rv ao, iv ut, iv ud, iv uq, iv (16385 : Int32)] [(.int (16385 : Int32)), (.ref f1)] _
    refine XS.sipush X54.here hx rfl (hb hby d7_48) ?_
    show own_At p e below T54 m 51 #[rv ao, iv ut, iv ud, iv uq, iv (16385 : Int32)] [(.int (16383 : Int32)), (.int (16385 : Int32)), (.ref f1)] _
    refine XS.iand X54.here hx rfl (hb hby d7_51) rfl ?_
    show own_At p e below T54 m 52 #[rv ao, iv ut, iv ud, iv uq, iv (16385 : Int32)] [(.int ((16385 : Int32) &&& (16383 : Int32))), (.ref f1)] _
    rw [show ((16385 : Int32) &&& (16383 : Int32)) = (1 : Int32) from (by decide +kernel)]
    show own_At p e below T54 m 52 #[rv ao, iv ut, iv ud, iv uq, iv (16385 : Int32)] [(.int (1 : Int32)), (.ref f1)] _
    refine XS.iloadN X54.here hx rfl (hb hby d7_52) rfl ?_
    show own_At p e below T54 m 53 #[rv ao, iv ut, iv ud, iv uq, iv (16385 : Int32)] [(.int uq), (.int (1 : Int32)), (.ref f1)] _
    exact kt)
  obtain ⟨T60, h60, X60, e60, W60, B60, ls60⟩ := own_iastore X54 hx hZ e54 f47 (j := (1 : Int32)) (i := 1) (by decide) (by decide) (by decide) (g := (mkF m 53 #[rv ao, iv ut, iv ud, iv uq, iv (16385 : Int32)] [(.int uq), (.int (1 : Int32)), (.ref f1)])) rfl rfl (hb hby d7_53)
  have N60 := Fr.snoc X60 N35 g_f1
  have f61 := f36.wr W60
  have f62 := f37.other W60 (Or.inl ne_ao_f1)
  have f63 := f38.other W60 (Or.inl ne_ao_f1)
  have f64 := f39.other W60 (Or.inl ne_ao_f1)
  have f65 := f40.other W60 (Or.inl ne_ao_f1)
  have f66 := f41.other W60 (Or.inl ne_ao_f1)
  have f67 := f42.other W60 ne_bs_f1
  have f68 := f43.other W60 ne_bt_f1
  have f69 := f44.other W60 ne_bf_f1
  have f70 := f52.other W60 ne_t0_f1
  have f71 := f46.other W60 ne_f0_f1
  have f72 := f48.other W60 ne_bn_f1
  have f73 := f50.other W60 ne_t1_f1
  have z74 := Nat.le_trans z49 (Keep.of_wr W60).1
  have f75 := B60.congr (g := (fun q => .int ((fun q => if q = 16385 then uq else F q) (16384 + q)))) (fun q hq => by
      by_cases z : q = 1
      · subst z; simp
      · have z2 : ¬ 16384 + q = 16385 := by omega
        simp [z, z2])
  have st76 : own_Go p e below (T60.setTop (mkF m 54 #[rv ao, iv ut, iv ud, iv uq, iv (16385 : Int32)] [])) B0 := fun t kt => st59 t (ls60 t kt)
  have f77 := f71.congr (g := (fun q => .int ((fun q => if q = 16385 then uq else F q) (q)))) (fun q hq => by
      have z2 : ¬ q = 16385 := by omega
      simp [z2])
  obtain ⟨fs, hr, hrun, hended, hW, hsame⟩ := X60.leave (v := none) (fun _ => rfl)
  subst hB0
  refine ⟨_, _, st76 _ ?_, hrun, hended, _, _, rfl, ?_, ⟨_, rfl⟩, hW, hsame.mono (by decide) (by decide)⟩
  · exact X60.returnOut hx Bd.returns (hb hby d7_54) hr
  · show Q_rm_add_2_16385 Z ao ut ud uq uf nx T F h0 n0 _ T60.heap _
    rw [e60]
    exact ⟨rfl, N60, z74, f61, f62, bs, bn, bt, bf, t0, t1, f0, f1, hge, nd, f63, f64, f65, f66, f67, f72, f68, f70, f73, f69, f77, f75⟩
def Q_rm_cp_1_3 (Z : State) (ap : Addr) (t0 : Addr) (gg : Nat → Int32) (h0 : Heap) (n0 : Nat) (v : Option Value) (h : Heap) (L : List Loc) : Prop := ∃ b, v = some (.ref b) ∧ Fr n0 L ∧ Keep h0 h [] ∧ n0 ≤ b ∧ h0.size ≤ b ∧ own_Av Z h b .int 2 (fun q => .int (gg (1 + q)))
set_option maxRecDepth 65536 in
set_option maxHeartbeats 40000000 in
theorem rm_cp_1_3 (l : Launch) (Z : State) (a0 : Array Value) (hw : ∀ d ∈ tables_1, d.before a0 Z = true) (ws : List Jvm.Cond) (ap : Addr) (t0 : Addr) (gg : Nat → Int32) (h0 : Heap) (n0 : Nat) (Z0 : n0 ≤ h0.size) (Ap : own_Av Z h0 ap (.array .int) 1 (fun _ => .ref t0)) (At0 : own_Av Z h0 t0 .int 4 (fun q => .int (gg q))) :
    MetFree l (⟨"com/example/ranked_text_search/rankedtextsearch/MemoryTermVectors", "copy", "([[III)[I"⟩ : MethodName) (head1 (Jvm.Cond.code (⟨"com/example/ranked_text_search/rankedtextsearch/MemoryTermVectors", "copy", "([[III)[I"⟩ : MethodName) prog_50_method_6_code 7 (some (.array .int)) :: ws) ({ frames := 1, cells := 1, slots := 2, locals := 18 } : Room)) (fun a U => a = #[(.ref ap), (.int (1 : Int32)), (.int (3 : Int32))] ∧ Z.Warmed39 U.vm ∧ U.heap = h0) (fun _ _ _ _ _ => True) (fun _ U o U' => ∃ v L, o = .returned v ∧ Q_rm_cp_1_3 Z ap t0 gg h0 n0 v U'.heap L ∧ FrameEnd U o U' L ({ frames := 1, cells := 1, slots := 2, locals := 18 } : Room).cells ({ frames := 1, cells := 1, slots := 2, locals := 18 } : Room).slots) := by
  refine MetFree.of_bodySF (plainFor_of_name own_pn2) hisR ?_
  intro p e s m args below meth c s₁ Bd hml0 hP hK
  obtain ⟨rfl, hZ, hh⟩ := hP
  have hx := Bd.exec
  have hby := Bd.bytes
  have hml : c.maxLocals = 7 := hml0
  have hown : s.vm.findClass "com/example/ranked_text_search/rankedtextsearch/MemoryTermVectors" = some m.cls := findClass_of_methodNamed Bd.named
  have hnm := (name_of_methodNamed Bd.named Bd.method).1
  have X0 : Stand p l e ({ frames := 1, cells := 1, slots := 2, locals := 18 } : Room) s m #[(.ref ap), (.int (1 : Int32)), (.int (3 : Int32))] below meth c s₁ [] 0 0 := Stand.of_body Bd
  have e0 : s₁.heap = h0 := by rw [← hh, Bd.state]; rfl
  have N0 := Fr.nil n0
  obtain ⟨B0, hB0⟩ : ∃ B, B = (s₁.setTop (entryFrame m #[(.ref ap), (.int (1 : Int32)), (.int (3 : Int32))] 7)) := ⟨_, rfl⟩
  have st0 : own_Go p e below (s₁.setTop (mkF m 0 #[rv ap, iv (1 : Int32), iv (3 : Int32), .unset, .unset, .unset, .unset] [])) B0 := fun t k => hB0 ▸ castTop (own_ef9_RII m ap (1 : Int32) (3 : Int32)) k
  have k0 : Keep h0 h0 [] := Keep.refl _ _
  have st1 : own_Go p e below (s₁.setTop (mkF m 3 #[rv ap, iv (1 : Int32), iv (3 : Int32), .unset, .unset, .unset, .unset] [(.int (2 : Int32))])) B0 := fun t kt => st0 t (by
    show own_At p e below s₁ m 0 #[rv ap, iv (1 : Int32), iv (3 : Int32), .unset, .unset, .unset, .unset] [] _
    refine XS.iloadN X0.here hx rfl (hb hby d9_0) rfl ?_
    show own_At p e below s₁ m 1 #[rv ap, iv (1 : Int32), iv (3 : Int32), .unset, .unset, .unset, .unset] [(.int (3 : Int32))] _
    refine XS.iloadN X0.here hx rfl (hb hby d9_1) rfl ?_
    show own_At p e below s₁ m 2 #[rv ap, iv (1 : Int32), iv (3 : Int32), .unset, .unset, .unset, .unset] [(.int (1 : Int32)), (.int (3 : Int32))] _
    refine XS.isub X0.here hx rfl (hb hby d9_2) rfl ?_
    show own_At p e below s₁ m 3 #[rv ap, iv (1 : Int32), iv (3 : Int32), .unset, .unset, .unset, .unset] [(.int ((3 : Int32) - (1 : Int32)))] _
    rw [show ((3 : Int32) - (1 : Int32)) = (2 : Int32) from (by decide +kernel)]
    show own_At p e below s₁ m 3 #[rv ap, iv (1 : Int32), iv (3 : Int32), .unset, .unset, .unset, .unset] [(.int (2 : Int32))] _
    exact kt)
  obtain ⟨T2, h2, c2, X2, e2, E2, A2, ls2⟩ := newP X0 hx hZ (hw _ (List.mem_of_getElem? (i := 7) rfl)) e0 (g := (mkF m 3 #[rv ap, iv (1 : Int32), iv (3 : Int32), .unset, .unset, .unset, .unset] [(.int (2 : Int32))])) rfl (hb hby d9_3) rfl (by decide) (cap := 2) (by decide) (by decide) (by decide) (by decide)
  obtain ⟨rr, g2⟩ : ∃ z, z = h0.size := ⟨_, rfl⟩
  rw [← g2] at A2 ls2
  have ne_ap_rr : ap ≠ rr := Nat.ne_of_lt (Nat.lt_of_lt_of_le Ap.lt (Nat.le_of_eq g2.symm))
  have ne_t0_rr : t0 ≠ rr := Nat.ne_of_lt (Nat.lt_of_lt_of_le At0.lt (Nat.le_of_eq g2.symm))
  have g_rr : n0 ≤ rr := Nat.le_trans Z0 (Nat.le_of_eq g2.symm)
  have sz_rr : h0.size ≤ rr := Nat.le_trans k0.1 (Nat.le_of_eq g2.symm)
  have f3 := Ap.ext E2
  have f4 := At0.ext E2
  have z5 := Nat.le_trans Z0 E2.1
  have k6 := k0.ext E2
  have f7 : own_Av Z h2 rr .int 2 (fun _ => (.int (0 : Int32))) := own_Av.new A2 (by decide) (by decide)
  have st8 : own_Go p e below (T2.setTop (mkF m 5 #[rv ap, iv (1 : Int32), iv (3 : Int32), .unset, .unset, .unset, .unset] [(.ref rr)])) B0 := fun t kt => st1 t (ls2 t kt)
  have hc9 : (1 : Int32) < (3 : Int32) := by decide
  have st10 : own_Go p e below (T2.setTop (mkF m 33 #[rv ap, iv (1 : Int32), iv (3 : Int32), rv rr, iv (1 : Int32), iv (1 : Int32), .unset] [(.int (16383 : Int32)), (.int (2 : Int32))])) B0 := fun t kt => st8 t (by
    show own_At p e below T2 m 5 #[rv ap, iv (1 : Int32), iv (3 : Int32), .unset, .unset, .unset, .unset] [(.ref rr)] _
    refine XS.astoreN X2.here hx rfl (hb hby d9_5) rfl rfl (l' := #[rv ap, iv (1 : Int32), iv (3 : Int32), rv rr, .unset, .unset, .unset]) rfl ?_
    show own_At p e below T2 m 6 #[rv ap, iv (1 : Int32), iv (3 : Int32), rv rr, .unset, .unset, .unset] [] _
    refine XS.iloadN X2.here hx rfl (hb hby d9_6) rfl ?_
    show own_At p e below T2 m 7 #[rv ap, iv (1 : Int32), iv (3 : Int32), rv rr, .unset, .unset, .unset] [(.int (1 : Int32))] _
    refine XS.istore X2.here hx rfl (hb hby d9_7) rfl (l' := #[rv ap, iv (1 : Int32), iv (3 : Int32), rv rr, iv (1 : Int32), .unset, .unset]) rfl ?_
    show own_At p e below T2 m 9 #[rv ap, iv (1 : Int32), iv (3 : Int32), rv rr, iv (1 : Int32), .unset, .unset] [] _
    refine XS.iload X2.here hx rfl (hb hby d9_9) rfl ?_
    show own_At p e below T2 m 11 #[rv ap, iv (1 : Int32), iv (3 : Int32), rv rr, iv (1 : Int32), .unset, .unset] [(.int (1 : Int32))] _
    refine XS.iloadN X2.here hx rfl (hb hby d9_11) rfl ?_
    show own_At p e below T2 m 12 #[rv ap, iv (1 : Int32), iv (3 : Int32), rv rr, iv (1 : Int32), .unset, .unset] [(.int (3 : Int32)), (.int (1 : Int32))] _
    refine XS.icmpNo X2.here hx rfl (hb hby d9_12) rfl (tlt hc9).2.1 ?_
    show own_At p e below T2 m 15 #[rv ap, iv (1 : Int32), iv (3 : Int32), rv rr, iv (1 : Int32), .unset, .unset] [] _
    refine XS.iload X2.here hx rfl (hb hby d9_15) rfl ?_
    show own_At p e below T2 m 17 #[rv ap, iv (1 : Int32), iv (3 : Int32), rv rr, iv (1 : Int32), .unset, .unset] [(.int (1 : Int32))] _
    refine XS.sipush X2.here hx rfl (hb hby d9_17) ?_
    show own_At p e below T2 m 20 #[rv ap, iv (1 : Int32), iv (3 : Int32), rv rr, iv (1 : Int32), .unset, .unset] [(.int (16383 : Int32)), (.int (1 : Int32))] _
    refine XS.iand X2.here hx rfl (hb hby d9_20) rfl ?_
    show own_At p e below T2 m 21 #[rv ap, iv (1 : Int32), iv (3 : Int32), rv rr, iv (1 : Int32), .unset, .unset] [(.int ((1 : Int32) &&& (16383 : Int32)))] _
    rw [show ((1 : Int32) &&& (16383 : Int32)) = (1 : Int32) from (by decide +kernel)]
    show own_At p e below T2 m 21 #[rv ap, iv (1 : Int32), iv (3 : Int32), rv rr, iv (1 : Int32), .unset, .unset] [(.int (1 : Int32))] _
    refine XS.istore X2.here hx rfl (hb hby d9_21) rfl (l' := #[rv ap, iv (1 : Int32), iv (3 : Int32), rv rr, iv (1 : Int32), iv (1 : Int32), .unset]) rfl ?_
    show own_At p e below T2 m 23 #[rv ap, iv (1 : Int32), iv (3 : Int32), rv rr, iv (1 : Int32), iv (1 : Int32), .unset] [] _
    refine XS.iloadN X2.here hx rfl (hb hby d9_23) rfl ?_
    show own_At p e below T2 m 24 #[rv ap, iv (1 : Int32), iv (3 : Int32), rv rr, iv (1 : Int32), iv (1 : Int32), .unset] [(.int (3 : Int32))] _
    refine XS.iload X2.here hx rfl (hb hby d9_24) rfl ?_
    show own_At p e below T2 m 26 #[rv ap, iv (1 : Int32), iv (3 : Int32), rv rr, iv (1 : Int32), iv (1 : Int32), .unset] [(.int (1 : Int32)), (.int (3 : Int32))] _
    refine XS.isub X2.here hx rfl (hb hby d9_26) rfl ?_
    show own_At p e below T2 m 27 #[rv ap, iv (1 : Int32), iv (3 : Int32), rv rr, iv (1 : Int32), iv (1 : Int32), .unset] [(.int ((3 : Int32) - (1 : Int32)))] _
    rw [show ((3 : Int32) - (1 : Int32)) = (2 : Int32) from (by decide +kernel)]
    show own_At p e below T2 m 27 #[rv ap, iv (1 : Int32), iv (3 : Int32), rv rr, iv (1 : Int32), iv (1 : Int32), .unset] [(.int (2 : Int32))] _
    refine XS.sipush X2.here hx rfl (hb hby d9_27) ?_
    show own_At p e below T2 m 30 #[rv ap, iv (1 : Int32), iv (3 : Int32), rv rr, iv (1 : Int32), iv (1 : Int32), .unset] [(.int (16384 : Int32)), (.int (2 : Int32))] _
    refine XS.iload X2.here hx rfl (hb hby d9_30) rfl ?_
    show own_At p e below T2 m 32 #[rv ap, iv (1 : Int32), iv (3 : Int32), rv rr, iv (1 : Int32), iv (1 : Int32), .unset] [(.int (1 : Int32)), (.int (16384 : Int32)), (.int (2 : Int32))] _
    refine XS.isub X2.here hx rfl (hb hby d9_32) rfl ?_
    show own_At p e below T2 m 33 #[rv ap, iv (1 : Int32), iv (3 : Int32), rv rr, iv (1 : Int32), iv (1 : Int32), .unset] [(.int ((16384 : Int32) - (1 : Int32))), (.int (2 : Int32))] _
    rw [show ((16384 : Int32) - (1 : Int32)) = (16383 : Int32) from (by decide +kernel)]
    show own_At p e below T2 m 33 #[rv ap, iv (1 : Int32), iv (3 : Int32), rv rr, iv (1 : Int32), iv (1 : Int32), .unset] [(.int (16383 : Int32)), (.int (2 : Int32))] _
    exact kt)
  obtain ⟨_, _, ⟨T11, L11, k11, n11⟩, -, X11, ⟨Lc11, hQ11, l11, y11, z11⟩, ls11⟩ := Jvm.LawKit.callS X2 hx (y := (⟨"java/lang/Math", "min", "(II)I"⟩ : MethodName)) hown (mvT hZ (hw _ (List.mem_of_getElem? (i := 29) rfl))) (mvT hZ (hw _ (List.mem_of_getElem? (i := 1) rfl))) (mvT hZ (hw _ (List.mem_of_getElem? (i := 2) rfl))) (mvT hZ (hw _ (List.mem_of_getElem? (i := 3) rfl))) (by decide) (backOf (W := 0) (rm_min l Z a0 hw [] ((2 : Int32)) ((16383 : Int32)) h2 n0 z5) hZ (hw _ (List.mem_of_getElem? (i := 3) rfl)) (hw _ (List.mem_of_getElem? (i := 2) rfl)) (by decide) (by decide)) (g := (mkF m 33 #[rv ap, iv (1 : Int32), iv (3 : Int32), rv rr, iv (1 : Int32), iv (1 : Int32), .unset] [(.int (16383 : Int32)), (.int (2 : Int32))])) rfl (by rw [hml]; rfl) (argsL := [(.int (2 : Int32)), (.int (16383 : Int32))]) (rest := []) (lenOf own_pd0 rfl) rfl (by show 2 * 0 + _ ≤ _; exact Nat.le_of_eq rfl) (hb hby d9_33) (fun _ _ => ⟨rfl, e2, (by decide : 1 + 0 ≤ _), (by decide : 2 + 0 ≤ _)⟩)
  dsimp only [Pt.U, Pt.locs, Pt.cells, Pt.slots] at X11 l11 y11 z11 ls11 hQ11
  subst l11 y11 z11
  obtain ⟨rfl, Nq11, eq11⟩ := hQ11
  have N11 := Fr.app N0 Nq11
  have st12 : own_Go p e below (T11.setTop (mkF m 36 #[rv ap, iv (1 : Int32), iv (3 : Int32), rv rr, iv (1 : Int32), iv (1 : Int32), .unset] [(.int (own_mn (2 : Int32) (16383 : Int32)))])) B0 := fun t kt => st10 t (ls11 t kt)
  have st13 : own_Go p e below (T11.setTop (mkF m 44 #[rv ap, iv (1 : Int32), iv (3 : Int32), rv rr, iv (1 : Int32), iv (1 : Int32), iv (2 : Int32)] [(.int (0 : Int32)), (.ref ap)])) B0 := fun t kt => st12 t (by
    show own_At p e below T11 m 36 #[rv ap, iv (1 : Int32), iv (3 : Int32), rv rr, iv (1 : Int32), iv (1 : Int32), .unset] [(.int (own_mn (2 : Int32) (16383 : Int32)))] _
    rw [show (own_mn (2 : Int32) (16383 : Int32)) = (2 : Int32) from (by decide +kernel)]
    show own_At p e below T11 m 36 #[rv ap, iv (1 : Int32), iv (3 : Int32), rv rr, iv (1 : Int32), iv (1 : Int32), .unset] [(.int (2 : Int32))] _
    refine XS.istore X11.here hx rfl (hb hby d9_36) rfl (l' := #[rv ap, iv (1 : Int32), iv (3 : Int32), rv rr, iv (1 : Int32), iv (1 : Int32), iv (2 : Int32)]) rfl ?_
    show own_At p e below T11 m 38 #[rv ap, iv (1 : Int32), iv (3 : Int32), rv rr, iv (1 : Int32), iv (1 : Int32), iv (2 : Int32)] [] _
    refine XS.aloadN X11.here hx rfl (hb hby d9_38) rfl rfl ?_
    show own_At p e below T11 m 39 #[rv ap, iv (1 : Int32), iv (3 : Int32), rv rr, iv (1 : Int32), iv (1 : Int32), iv (2 : Int32)] [(.ref ap)] _
    refine XS.iload X11.here hx rfl (hb hby d9_39) rfl ?_
    show own_At p e below T11 m 41 #[rv ap, iv (1 : Int32), iv (3 : Int32), rv rr, iv (1 : Int32), iv (1 : Int32), iv (2 : Int32)] [(.int (1 : Int32)), (.ref ap)] _
    refine XS.bipush X11.here hx rfl (hb hby d9_41) ?_
    show own_At p e below T11 m 43 #[rv ap, iv (1 : Int32), iv (3 : Int32), rv rr, iv (1 : Int32), iv (1 : Int32), iv (2 : Int32)] [(.int (14 : Int32)), (.int (1 : Int32)), (.ref ap)] _
    refine XS.iushr X11.here hx rfl (hb hby d9_43) rfl ?_
    show own_At p e below T11 m 44 #[rv ap, iv (1 : Int32), iv (3 : Int32), rv rr, iv (1 : Int32), iv (1 : Int32), iv (2 : Int32)] [(.int (((1 : Int32).toUInt32 >>> ((14 : Int32) &&& 31).toUInt32).toInt32)), (.ref ap)] _
    rw [show (((1 : Int32).toUInt32 >>> ((14 : Int32) &&& 31).toUInt32).toInt32) = (0 : Int32) from (by decide +kernel)]
    show own_At p e below T11 m 44 #[rv ap, iv (1 : Int32), iv (3 : Int32), rv rr, iv (1 : Int32), iv (1 : Int32), iv (2 : Int32)] [(.int (0 : Int32)), (.ref ap)] _
    exact kt)
  have ls14 := own_aaload (ty := (.array .int)) rfl X11 hx hZ eq11 f3 (j := (0 : Int32)) (i := 0) (by decide) (by decide) (by decide) (v := (.ref t0)) (rfl) (g := (mkF m 44 #[rv ap, iv (1 : Int32), iv (3 : Int32), rv rr, iv (1 : Int32), iv (1 : Int32), iv (2 : Int32)] [(.int (0 : Int32)), (.ref ap)])) rfl rfl (hb hby d9_44)
  have st15 : own_Go p e below (T11.setTop (mkF m 45 #[rv ap, iv (1 : Int32), iv (3 : Int32), rv rr, iv (1 : Int32), iv (1 : Int32), iv (2 : Int32)] [(.ref t0)])) B0 := fun t kt => st13 t (ls14 t kt)
  have st16 : own_Go p e below (T11.setTop (mkF m 54 #[rv ap, iv (1 : Int32), iv (3 : Int32), rv rr, iv (1 : Int32), iv (1 : Int32), iv (2 : Int32)] [(.int (2 : Int32)), (.int (0 : Int32)), (.ref rr), (.int (1 : Int32)), (.ref t0)])) B0 := fun t kt => st15 t (by
    show own_At p e below T11 m 45 #[rv ap, iv (1 : Int32), iv (3 : Int32), rv rr, iv (1 : Int32), iv (1 : Int32), iv (2 : Int32)] [(.ref t0)] _
    refine XS.iload X11.here hx rfl (hb hby d9_45) rfl ?_
    show own_At p e below T11 m 47 #[rv ap, iv (1 : Int32), iv (3 : Int32), rv rr, iv (1 : Int32), iv (1 : Int32), iv (2 : Int32)] [(.int (1 : Int32)), (.ref t0)] _
    refine XS.aloadN X11.here hx rfl (hb hby d9_47) rfl rfl ?_
    show own_At p e below T11 m 48 #[rv ap, iv (1 : Int32), iv (3 : Int32), rv rr, iv (1 : Int32), iv (1 : Int32), iv (2 : Int32)] [(.ref rr), (.int (1 : Int32)), (.ref t0)] _
    refine XS.iload X11.here hx rfl (hb hby d9_48) rfl ?_
    show own_At p e below T11 m 50 #[rv ap, iv (1 : Int32), iv (3 : Int32), rv rr, iv (1 : Int32), iv (1 : Int32), iv (2 : Int32)] [(.int (1 : Int32)), (.ref rr), (.int (1 : Int32)), (.ref t0)] _
    refine XS.iloadN X11.here hx rfl (hb hby d9_50) rfl ?_
    show own_At p e below T11 m 51 #[rv ap, iv (1 : Int32), iv (3 : Int32), rv rr, iv (1 : Int32), iv (1 : Int32), iv (2 : Int32)] [(.int (1 : Int32)), (.int (1 : Int32)), (.ref rr), (.int (1 : Int32)), (.ref t0)] _
    refine XS.isub X11.here hx rfl (hb hby d9_51) rfl ?_
    show own_At p e below T11 m 52 #[rv ap, iv (1 : Int32), iv (3 : Int32), rv rr, iv (1 : Int32), iv (1 : Int32), iv (2 : Int32)] [(.int ((1 : Int32) - (1 : Int32))), (.ref rr), (.int (1 : Int32)), (.ref t0)] _
    rw [show ((1 : Int32) - (1 : Int32)) = (0 : Int32) from (by decide +kernel)]
    show own_At p e below T11 m 52 #[rv ap, iv (1 : Int32), iv (3 : Int32), rv rr, iv (1 : Int32), iv (1 : Int32), iv (2 : Int32)] [(.int (0 : Int32)), (.ref rr), (.int (1 : Int32)), (.ref t0)] _
    refine XS.iload X11.here hx rfl (hb hby d9_52) rfl ?_
    show own_At p e below T11 m 54 #[rv ap, iv (1 : Int32), iv (3 : Int32), rv rr, iv (1 : Int32), iv (1 : Int32), iv (2 : Int32)] [(.int (2 : Int32)), (.int (0 : Int32)), (.ref rr), (.int (1 : Int32)), (.ref t0)] _
    exact kt)
  obtain ⟨T17, h17, L17, X17, e17, N17, K17, B17, ls17⟩ := own_cp X11 hx hZ hown (hw _ (List.mem_of_getElem? (i := 62) rfl)) (hw _ (List.mem_of_getElem? (i := 43) rfl)) (hw _ (List.mem_of_getElem? (i := 41) rfl)) (hw _ (List.mem_of_getElem? (i := 42) rfl)) eq11 (ty := .int) rfl f4 f7 (fun _ _ => rfl) (fun _ _ => rfl) (i := 1) (j := 0) (k := 2) (by decide) (by decide) (by decide) (by decide) (by decide) (by decide) (by decide) (by decide) N11 g_rr (g := (mkF m 54 #[rv ap, iv (1 : Int32), iv (3 : Int32), rv rr, iv (1 : Int32), iv (1 : Int32), iv (2 : Int32)] [(.int (2 : Int32)), (.int (0 : Int32)), (.ref rr), (.int (1 : Int32)), (.ref t0)])) rfl (by rw [hml]; rfl) rfl (hb hby d9_54) (by decide) (W := 0) (by show 2 * 0 + _ ≤ _; exact Nat.le_of_eq rfl) (by decide)
  have f18 := f3.keep K17 (ninS ne_ap_rr nin0)
  have f19 := f4.keep K17 (ninS ne_t0_rr nin0)
  have z21 := Nat.le_trans z5 K17.1
  have k22 := Keep.trans k6 K17 (allS (P := fun x => x ∈ [] ∨ h0.size ≤ x) (Or.inr sz_rr) all0)
  have f23 : own_Av Z h17 rr .int 2 (fun q => .int (gg (1 + q))) := B17.congr (fun q hq => match q, hq with | 0, _ => rfl | 1, _ => rfl | _ + 2, z => absurd z (by omega))
  have st24 : own_Go p e below (T17.setTop (mkF m 57 #[rv ap, iv (1 : Int32), iv (3 : Int32), rv rr, iv (1 : Int32), iv (1 : Int32), iv (2 : Int32)] [])) B0 := fun t kt => st16 t (ls17 t kt)
  have hc25 : ¬ ((3 : Int32) < (3 : Int32)) := by decide
  have st26 : own_Go p e below (T17.setTop (mkF m 68 #[rv ap, iv (1 : Int32), iv (3 : Int32), rv rr, iv (3 : Int32), iv (1 : Int32), iv (2 : Int32)] [(.ref rr)])) B0 := fun t kt => st24 t (by
    show own_At p e below T17 m 57 #[rv ap, iv (1 : Int32), iv (3 : Int32), rv rr, iv (1 : Int32), iv (1 : Int32), iv (2 : Int32)] [] _
    refine XS.iload X17.here hx rfl (hb hby d9_57) rfl ?_
    show own_At p e below T17 m 59 #[rv ap, iv (1 : Int32), iv (3 : Int32), rv rr, iv (1 : Int32), iv (1 : Int32), iv (2 : Int32)] [(.int (1 : Int32))] _
    refine XS.iload X17.here hx rfl (hb hby d9_59) rfl ?_
    show own_At p e below T17 m 61 #[rv ap, iv (1 : Int32), iv (3 : Int32), rv rr, iv (1 : Int32), iv (1 : Int32), iv (2 : Int32)] [(.int (2 : Int32)), (.int (1 : Int32))] _
    refine XS.iadd X17.here hx rfl (hb hby d9_61) rfl ?_
    show own_At p e below T17 m 62 #[rv ap, iv (1 : Int32), iv (3 : Int32), rv rr, iv (1 : Int32), iv (1 : Int32), iv (2 : Int32)] [(.int ((1 : Int32) + (2 : Int32)))] _
    rw [show ((1 : Int32) + (2 : Int32)) = (3 : Int32) from (by decide +kernel)]
    show own_At p e below T17 m 62 #[rv ap, iv (1 : Int32), iv (3 : Int32), rv rr, iv (1 : Int32), iv (1 : Int32), iv (2 : Int32)] [(.int (3 : Int32))] _
    refine XS.istore X17.here hx rfl (hb hby d9_62) rfl (l' := #[rv ap, iv (1 : Int32), iv (3 : Int32), rv rr, iv (3 : Int32), iv (1 : Int32), iv (2 : Int32)]) rfl ?_
    show own_At p e below T17 m 64 #[rv ap, iv (1 : Int32), iv (3 : Int32), rv rr, iv (3 : Int32), iv (1 : Int32), iv (2 : Int32)] [] _
    refine XS.goto X17.here hx rfl (pc0 := 64) (pc' := 9) rfl (hb hby d9_64) (by decide) (by decide) ?_
    show own_At p e below T17 m 9 #[rv ap, iv (1 : Int32), iv (3 : Int32), rv rr, iv (3 : Int32), iv (1 : Int32), iv (2 : Int32)] [] _
    refine XS.iload X17.here hx rfl (hb hby d9_9) rfl ?_
    show own_At p e below T17 m 11 #[rv ap, iv (1 : Int32), iv (3 : Int32), rv rr, iv (3 : Int32), iv (1 : Int32), iv (2 : Int32)] [(.int (3 : Int32))] _
    refine XS.iloadN X17.here hx rfl (hb hby d9_11) rfl ?_
    show own_At p e below T17 m 12 #[rv ap, iv (1 : Int32), iv (3 : Int32), rv rr, iv (3 : Int32), iv (1 : Int32), iv (2 : Int32)] [(.int (3 : Int32)), (.int (3 : Int32))] _
    refine XS.icmpYes X17.here hx rfl (pc0 := 12) (pc' := 67) rfl (hb hby d9_12) rfl (flt hc25).2.1 (by decide) (by decide) ?_
    show own_At p e below T17 m 67 #[rv ap, iv (1 : Int32), iv (3 : Int32), rv rr, iv (3 : Int32), iv (1 : Int32), iv (2 : Int32)] [] _
    refine XS.aloadN X17.here hx rfl (hb hby d9_67) rfl rfl ?_
    show own_At p e below T17 m 68 #[rv ap, iv (1 : Int32), iv (3 : Int32), rv rr, iv (3 : Int32), iv (1 : Int32), iv (2 : Int32)] [(.ref rr)] _
    exact kt)
  obtain ⟨fs, hr, hrun, hended, hW, hsame⟩ := X17.leave (v := (some (.ref rr))) (fun h => by rw [Bd.returns] at h; cases h)
  subst hB0
  refine ⟨_, _, st26 _ ?_, hrun, hended, _, _, rfl, ?_, ⟨_, rfl⟩, hW, hsame.mono (by decide) (by decide)⟩
  · exact retOut X17 hx Bd.returns rfl (Or.inr (Or.inr (Or.inr (Or.inr ⟨rfl, rfl, rfl⟩)))) (hb hby d9_68) hr
  · show Q_rm_cp_1_3 Z ap t0 gg h0 n0 _ T17.heap _
    rw [e17]
    exact ⟨rr, rfl, N17, k22, g_rr, sz_rr, f23⟩
def Q_rm_cp_3_4 (Z : State) (ap : Addr) (t0 : Addr) (gg : Nat → Int32) (h0 : Heap) (n0 : Nat) (v : Option Value) (h : Heap) (L : List Loc) : Prop := ∃ b, v = some (.ref b) ∧ Fr n0 L ∧ Keep h0 h [] ∧ n0 ≤ b ∧ h0.size ≤ b ∧ own_Av Z h b .int 1 (fun q => .int (gg (3 + q)))
set_option maxRecDepth 65536 in
set_option maxHeartbeats 40000000 in
theorem rm_cp_3_4 (l : Launch) (Z : State) (a0 : Array Value) (hw : ∀ d ∈ tables_1, d.before a0 Z = true) (ws : List Jvm.Cond) (ap : Addr) (t0 : Addr) (gg : Nat → Int32) (h0 : Heap) (n0 : Nat) (Z0 : n0 ≤ h0.size) (Ap : own_Av Z h0 ap (.array .int) 1 (fun _ => .ref t0)) (At0 : own_Av Z h0 t0 .int 4 (fun q => .int (gg q))) :
    MetFree l (⟨"com/example/ranked_text_search/rankedtextsearch/MemoryTermVectors", "copy", "([[III)[I"⟩ : MethodName) (head1 (Jvm.Cond.code (⟨"com/example/ranked_text_search/rankedtextsearch/MemoryTermVectors", "copy", "([[III)[I"⟩ : MethodName) prog_50_method_6_code 7 (some (.array .int)) :: ws) ({ frames := 1, cells := 1, slots := 1, locals := 18 } : Room)) (fun a U => a = #[(.ref ap), (.int (3 : Int32)), (.int (4 : Int32))] ∧ Z.Warmed39 U.vm ∧ U.heap = h0) (fun _ _ _ _ _ => True) (fun _ U o U' => ∃ v L, o = .returned v ∧ Q_rm_cp_3_4 Z ap t0 gg h0 n0 v U'.heap L ∧ FrameEnd U o U' L ({ frames := 1, cells := 1, slots := 1, locals := 18 } : Room).cells ({ frames := 1, cells := 1, slots := 1, locals := 18 } : Room).slots) := by
  refine MetFree.of_bodySF (plainFor_of_name own_pn2) hisR ?_
  intro p e s m args below meth c s₁ Bd hml0 hP hK
  obtain ⟨rfl, hZ, hh⟩ := hP
  have hx := Bd.exec
  have hby := Bd.bytes
  have hml : c.maxLocals = 7 := hml0
  have hown : s.vm.findClass "com/example/ranked_text_search/rankedtextsearch/MemoryTermVectors" = some m.cls := findClass_of_methodNamed Bd.named
  have hnm := (name_of_methodNamed Bd.named Bd.method).1
  have X0 : Stand p l e ({ frames := 1, cells := 1, slots := 1, locals := 18 } : Room) s m #[(.ref ap), (.int (3 : Int32)), (.int (4 : Int32))] below meth c s₁ [] 0 0 := Stand.of_body Bd
  have e0 : s₁.heap = h0 := by rw [← hh, Bd.state]; rfl
  have N0 := Fr.nil n0
  obtain ⟨B0, hB0⟩ : ∃ B, B = (s₁.setTop (entryFrame m #[(.ref ap), (.int (3 : Int32)), (.int (4 : Int32))] 7)) := ⟨_, rfl⟩
  have st0 : own_Go p e below (s₁.setTop (mkF m 0 #[rv ap, iv (3 : Int32), iv (4 : Int32), .unset, .unset, .unset, .unset] [])) B0 := fun t k => hB0 ▸ castTop (own_ef9_RII m ap (3 : Int32) (4 : Int32)) k
  have k0 : Keep h0 h0 [] := Keep.refl _ _
  have st1 : own_Go p e below (s₁.setTop (mkF m 3 #[rv ap, iv (3 : Int32), iv (4 : Int32), .unset, .unset, .unset, .unset] [(.int (1 : Int32))])) B0 := fun t kt => st0 t (by
    show own_At p e below s₁ m 0 #[rv ap, iv (3 : Int32), iv (4 : Int32), .unset, .unset, .unset, .unset] [] _
    refine XS.iloadN X0.here hx rfl (hb hby d9_0) rfl ?_
    show own_At p e below s₁ m 1 #[rv ap, iv (3 : Int32), iv (4 : Int32), .unset, .unset, .unset, .unset] [(.int (4 : Int32))] _
    refine XS.iloadN X0.here hx rfl (hb hby d9_1) rfl ?_
    show own_At p e below s₁ m 2 #[rv ap, iv (3 : Int32), iv (4 : Int32), .unset, .unset, .unset, .unset] [(.int (3 : Int32)), (.int (4 : Int32))] _
    refine XS.isub X0.here hx rfl (hb hby d9_2) rfl ?_
    show own_At p e below s₁ m 3 #[rv ap, iv (3 : Int32), iv (4 : Int32), .unset, .unset, .unset, .unset] [(.int ((4 : Int32) - (3 : Int32)))] _
    rw [show ((4 : Int32) - (3 : Int32)) = (1 : Int32) from (by decide +kernel)]
    show own_At p e below s₁ m 3 #[rv ap, iv (3 : Int32), iv (4 : Int32), .unset, .unset, .unset, .unset] [(.int (1 : Int32))] _
    exact kt)
  obtain ⟨T2, h2, c2, X2, e2, E2, A2, ls2⟩ := newP X0 hx hZ (hw _ (List.mem_of_getElem? (i := 7) rfl)) e0 (g := (mkF m 3 #[rv ap, iv (3 : Int32), iv (4 : Int32), .unset, .unset, .unset, .unset] [(.int (1 : Int32))])) rfl (hb hby d9_3) rfl (by decide) (cap := 1) (by decide) (by decide) (by decide) (by decide)
  obtain ⟨rr, g2⟩ : ∃ z, z = h0.size := ⟨_, rfl⟩
  rw [← g2] at A2 ls2
  have ne_ap_rr : ap ≠ rr := Nat.ne_of_lt (Nat.lt_of_lt_of_le Ap.lt (Nat.le_of_eq g2.symm))
  have ne_t0_rr : t0 ≠ rr := Nat.ne_of_lt (Nat.lt_of_lt_of_le At0.lt (Nat.le_of_eq g2.symm))
  have g_rr : n0 ≤ rr := Nat.le_trans Z0 (Nat.le_of_eq g2.symm)
  have sz_rr : h0.size ≤ rr := Nat.le_trans k0.1 (Nat.le_of_eq g2.symm)
  have f3 := Ap.ext E2
  have f4 := At0.ext E2
  have z5 := Nat.le_trans Z0 E2.1
  have k6 := k0.ext E2
  have f7 : own_Av Z h2 rr .int 1 (fun _ => (.int (0 : Int32))) := own_Av.new A2 (by decide) (by decide)
  have st8 : own_Go p e below (T2.setTop (mkF m 5 #[rv ap, iv (3 : Int32), iv (4 : Int32), .unset, .unset, .unset, .unset] [(.ref rr)])) B0 := fun t kt => st1 t (ls2 t kt)
  have hc9 : (3 : Int32) < (4 : Int32) := by decide
  have st10 : own_Go p e below (T2.setTop (mkF m 33 #[rv ap, iv (3 : Int32), iv (4 : Int32), rv rr, iv (3 : Int32), iv (3 : Int32), .unset] [(.int (16381 : Int32)), (.int (1 : Int32))])) B0 := fun t kt => st8 t (by
    show own_At p e below T2 m 5 #[rv ap, iv (3 : Int32), iv (4 : Int32), .unset, .unset, .unset, .unset] [(.ref rr)] _
    refine XS.astoreN X2.here hx rfl (hb hby d9_5) rfl rfl (l' := #[rv ap, iv (3 : Int32), iv (4 : Int32), rv rr, .unset, .unset, .unset]) rfl ?_
    show own_At p e below T2 m 6 #[rv ap, iv (3 : Int32), iv (4 : Int32), rv rr, .unset, .unset, .unset] [] _
    refine XS.iloadN X2.here hx rfl (hb hby d9_6) rfl ?_
    show own_At p e below T2 m 7 #[rv ap, iv (3 : Int32), iv (4 : Int32), rv rr, .unset, .unset, .unset] [(.int (3 : Int32))] _
    refine XS.istore X2.here hx rfl (hb hby d9_7) rfl (l' := #[rv ap, iv (3 : Int32), iv (4 : Int32), rv rr, iv (3 : Int32), .unset, .unset]) rfl ?_
    show own_At p e below T2 m 9 #[rv ap, iv (3 : Int32), iv (4 : Int32), rv rr, iv (3 : Int32), .unset, .unset] [] _
    refine XS.iload X2.here hx rfl (hb hby d9_9) rfl ?_
    show own_At p e below T2 m 11 #[rv ap, iv (3 : Int32), iv (4 : Int32), rv rr, iv (3 : Int32), .unset, .unset] [(.int (3 : Int32))] _
    refine XS.iloadN X2.here hx rfl (hb hby d9_11) rfl ?_
    show own_At p e below T2 m 12 #[rv ap, iv (3 : Int32), iv (4 : Int32), rv rr, iv (3 : Int32), .unset, .unset] [(.int (4 : Int32)), (.int (3 : Int32))] _
    refine XS.icmpNo X2.here hx rfl (hb hby d9_12) rfl (tlt hc9).2.1 ?_
    show own_At p e below T2 m 15 #[rv ap, iv (3 : Int32), iv (4 : Int32), rv rr, iv (3 : Int32), .unset, .unset] [] _
    refine XS.iload X2.here hx rfl (hb hby d9_15) rfl ?_
    show own_At p e below T2 m 17 #[rv ap, iv (3 : Int32), iv (4 : Int32), rv rr, iv (3 : Int32), .unset, .unset] [(.int (3 : Int32))] _
    refine XS.sipush X2.here hx rfl (hb hby d9_17) ?_
    show own_At p e below T2 m 20 #[rv ap, iv (3 : Int32), iv (4 : Int32), rv rr, iv (3 : Int32), .unset, .unset] [(.int (16383 : Int32)), (.int (3 : Int32))] _
    refine XS.iand X2.here hx rfl (hb hby d9_20) rfl ?_
    show own_At p e below T2 m 21 #[rv ap, iv (3 : Int32), iv (4 : Int32), rv rr, iv (3 : Int32), .unset, .unset] [(.int ((3 : Int32) &&& (16383 : Int32)))] _
    rw [show ((3 : Int32) &&& (16383 : Int32)) = (3 : Int32) from (by decide +kernel)]
    show own_At p e below T2 m 21 #[rv ap, iv (3 : Int32), iv (4 : Int32), rv rr, iv (3 : Int32), .unset, .unset] [(.int (3 : Int32))] _
    refine XS.istore X2.here hx rfl (hb hby d9_21) rfl (l' := #[rv ap, iv (3 : Int32), iv (4 : Int32), rv rr, iv (3 : Int32), iv (3 : Int32), .unset]) rfl ?_
    show own_At p e below T2 m 23 #[rv ap, iv (3 : Int32), iv (4 : Int32), rv rr, iv (3 : Int32), iv (3 : Int32), .unset] [] _
    refine XS.iloadN X2.here hx rfl (hb hby d9_23) rfl ?_
    show own_At p e below T2 m 24 #[rv ap, iv (3 : Int32), iv (4 : Int32), rv rr, iv (3 : Int32), iv (3 : Int32), .unset] [(.int (4 : Int32))] _
    refine XS.iload X2.here hx rfl (hb hby d9_24) rfl ?_
    show own_At p e below T2 m 26 #[rv ap, iv (3 : Int32), iv (4 : Int32), rv rr, iv (3 : Int32), iv (3 : Int32), .unset] [(.int (3 : Int32)), (.int (4 : Int32))] _
    refine XS.isub X2.here hx rfl (hb hby d9_26) rfl ?_
    show own_At p e below T2 m 27 #[rv ap, iv (3 : Int32), iv (4 : Int32), rv rr, iv (3 : Int32), iv (3 : Int32), .unset] [(.int ((4 : Int32) - (3 : Int32)))] _
    rw [show ((4 : Int32) - (3 : Int32)) = (1 : Int32) from (by decide +kernel)]
    show own_At p e below T2 m 27 #[rv ap, iv (3 : Int32), iv (4 : Int32), rv rr, iv (3 : Int32), iv (3 : Int32), .unset] [(.int (1 : Int32))] _
    refine XS.sipush X2.here hx rfl (hb hby d9_27) ?_
    show own_At p e below T2 m 30 #[rv ap, iv (3 : Int32), iv (4 : Int32), rv rr, iv (3 : Int32), iv (3 : Int32), .unset] [(.int (16384 : Int32)), (.int (1 : Int32))] _
    refine XS.iload X2.here hx rfl (hb hby d9_30) rfl ?_
    show own_At p e below T2 m 32 #[rv ap, iv (3 : Int32), iv (4 : Int32), rv rr, iv (3 : Int32), iv (3 : Int32), .unset] [(.int (3 : Int32)), (.int (16384 : Int32)), (.int (1 : Int32))] _
    refine XS.isub X2.here hx rfl (hb hby d9_32) rfl ?_
    show own_At p e below T2 m 33 #[rv ap, iv (3 : Int32), iv (4 : Int32), rv rr, iv (3 : Int32), iv (3 : Int32), .unset] [(.int ((16384 : Int32) - (3 : Int32))), (.int (1 : Int32))] _
    rw [show ((16384 : Int32) - (3 : Int32)) = (16381 : Int32) from (by decide +kernel)]
    show own_At p e below T2 m 33 #[rv ap, iv (3 : Int32), iv (4 : Int32), rv rr, iv (3 : Int32), iv (3 : Int32), .unset] [(.int (16381 : Int32)), (.int (1 : Int32))] _
    exact kt)
  obtain ⟨_, _, ⟨T11, L11, k11, n11⟩, -, X11, ⟨Lc11, hQ11, l11, y11, z11⟩, ls11⟩ := Jvm.LawKit.callS X2 hx (y := (⟨"java/lang/Math", "min", "(II)I"⟩ : MethodName)) hown (mvT hZ (hw _ (List.mem_of_getElem? (i := 29) rfl))) (mvT hZ (hw _ (List.mem_of_getElem? (i := 1) rfl))) (mvT hZ (hw _ (List.mem_of_getElem? (i := 2) rfl))) (mvT hZ (hw _ (List.mem_of_getElem? (i := 3) rfl))) (by decide) (backOf (W := 0) (rm_min l Z a0 hw [] ((1 : Int32)) ((16381 : Int32)) h2 n0 z5) hZ (hw _ (List.mem_of_getElem? (i := 3) rfl)) (hw _ (List.mem_of_getElem? (i := 2) rfl)) (by decide) (by decide)) (g := (mkF m 33 #[rv ap, iv (3 : Int32), iv (4 : Int32), rv rr, iv (3 : Int32), iv (3 : Int32), .unset] [(.int (16381 : Int32)), (.int (1 : Int32))])) rfl (by rw [hml]; rfl) (argsL := [(.int (1 : Int32)), (.int (16381 : Int32))]) (rest := []) (lenOf own_pd0 rfl) rfl (by show 2 * 0 + _ ≤ _; exact Nat.le_of_eq rfl) (hb hby d9_33) (fun _ _ => ⟨rfl, e2, (by decide : 1 + 0 ≤ _), (by decide : 1 + 0 ≤ _)⟩)
  dsimp only [Pt.U, Pt.locs, Pt.cells, Pt.slots] at X11 l11 y11 z11 ls11 hQ11
  subst l11 y11 z11
  obtain ⟨rfl, Nq11, eq11⟩ := hQ11
  have N11 := Fr.app N0 Nq11
  have st12 : own_Go p e below (T11.setTop (mkF m 36 #[rv ap, iv (3 : Int32), iv (4 : Int32), rv rr, iv (3 : Int32), iv (3 : Int32), .unset] [(.int (own_mn (1 : Int32) (16381 : Int32)))])) B0 := fun t kt => st10 t (ls11 t kt)
  have st13 : own_Go p e below (T11.setTop (mkF m 44 #[rv ap, iv (3 : Int32), iv (4 : Int32), rv rr, iv (3 : Int32), iv (3 : Int32), iv (1 : Int32)] [(.int (0 : Int32)), (.ref ap)])) B0 := fun t kt => st12 t (by
    show own_At p e below T11 m 36 #[rv ap, iv (3 : Int32), iv (4 : Int32), rv rr, iv (3 : Int32), iv (3 : Int32), .unset] [(.int (own_mn (1 : Int32) (16381 : Int32)))] _
    rw [show (own_mn (1 : Int32) (16381 : Int32)) = (1 : Int32) from (by decide +kernel)]
    show own_At p e below T11 m 36 #[rv ap, iv (3 : Int32), iv (4 : Int32), rv rr, iv (3 : Int32), iv (3 : Int32), .unset] [(.int (1 : Int32))] _
    refine XS.istore X11.here hx rfl (hb hby d9_36) rfl (l' := #[rv ap, iv (3 : Int32), iv (4 : Int32), rv rr, iv (3 : Int32), iv (3 : Int32), iv (1 : Int32)]) rfl ?_
    show own_At p e below T11 m 38 #[rv ap, iv (3 : Int32), iv (4 : Int32), rv rr, iv (3 : Int32), iv (3 : Int32), iv (1 : Int32)] [] _
    refine XS.aloadN X11.here hx rfl (hb hby d9_38) rfl rfl ?_
    show own_At p e below T11 m 39 #[rv ap, iv (3 : Int32), iv (4 : Int32), rv rr, iv (3 : Int32), iv (3 : Int32), iv (1 : Int32)] [(.ref ap)] _
    refine XS.iload X11.here hx rfl (hb hby d9_39) rfl ?_
    show own_At p e below T11 m 41 #[rv ap, iv (3 : Int32), iv (4 : Int32), rv rr, iv (3 : Int32), iv (3 : Int32), iv (1 : Int32)] [(.int (3 : Int32)), (.ref ap)] _
    refine XS.bipush X11.here hx rfl (hb hby d9_41) ?_
    show own_At p e below T11 m 43 #[rv ap, iv (3 : Int32), iv (4 : Int32), rv rr, iv (3 : Int32), iv (3 : Int32), iv (1 : Int32)] [(.int (14 : Int32)), (.int (3 : Int32)), (.ref ap)] _
    refine XS.iushr X11.here hx rfl (hb hby d9_43) rfl ?_
    show own_At p e below T11 m 44 #[rv ap, iv (3 : Int32), iv (4 : Int32), rv rr, iv (3 : Int32), iv (3 : Int32), iv (1 : Int32)] [(.int (((3 : Int32).toUInt32 >>> ((14 : Int32) &&& 31).toUInt32).toInt32)), (.ref ap)] _
    rw [show (((3 : Int32).toUInt32 >>> ((14 : Int32) &&& 31).toUInt32).toInt32) = (0 : Int32) from (by decide +kernel)]
    show own_At p e below T11 m 44 #[rv ap, iv (3 : Int32), iv (4 : Int32), rv rr, iv (3 : Int32), iv (3 : Int32), iv (1 : Int32)] [(.int (0 : Int32)), (.ref ap)] _
    exact kt)
  have ls14 := own_aaload (ty := (.array .int)) rfl X11 hx hZ eq11 f3 (j := (0 : Int32)) (i := 0) (by decide) (by decide) (by decide) (v := (.ref t0)) (rfl) (g := (mkF m 44 #[rv ap, iv (3 : Int32), iv (4 : Int32), rv rr, iv (3 : Int32), iv (3 : Int32), iv (1 : Int32)] [(.int (0 : Int32)), (.ref ap)])) rfl rfl (hb hby d9_44)
  have st15 : own_Go p e below (T11.setTop (mkF m 45 #[rv ap, iv (3 : Int32), iv (4 : Int32), rv rr, iv (3 : Int32), iv (3 : Int32), iv (1 : Int32)] [(.ref t0)])) B0 := fun t kt => st13 t (ls14 t kt)
  have st16 : own_Go p e below (T11.setTop (mkF m 54 #[rv ap, iv (3 : Int32), iv (4 : Int32), rv rr, iv (3 : Int32), iv (3 : Int32), iv (1 : Int32)] [(.int (1 : Int32)), (.int (0 : Int32)), (.ref rr), (.int (3 : Int32)), (.ref t0)])) B0 := fun t kt => st15 t (by
    show own_At p e below T11 m 45 #[rv ap, iv (3 : Int32), iv (4 : Int32), rv rr, iv (3 : Int32), iv (3 : Int32), iv (1 : Int32)] [(.ref t0)] _
    refine XS.iload X11.here hx rfl (hb hby d9_45) rfl ?_
    show own_At p e below T11 m 47 #[rv ap, iv (3 : Int32), iv (4 : Int32), rv rr, iv (3 : Int32), iv (3 : Int32), iv (1 : Int32)] [(.int (3 : Int32)), (.ref t0)] _
    refine XS.aloadN X11.here hx rfl (hb hby d9_47) rfl rfl ?_
    show own_At p e below T11 m 48 #[rv ap, iv (3 : Int32), iv (4 : Int32), rv rr, iv (3 : Int32), iv (3 : Int32), iv (1 : Int32)] [(.ref rr), (.int (3 : Int32)), (.ref t0)] _
    refine XS.iload X11.here hx rfl (hb hby d9_48) rfl ?_
    show own_At p e below T11 m 50 #[rv ap, iv (3 : Int32), iv (4 : Int32), rv rr, iv (3 : Int32), iv (3 : Int32), iv (1 : Int32)] [(.int (3 : Int32)), (.ref rr), (.int (3 : Int32)), (.ref t0)] _
    refine XS.iloadN X11.here hx rfl (hb hby d9_50) rfl ?_
    show own_At p e below T11 m 51 #[rv ap, iv (3 : Int32), iv (4 : Int32), rv rr, iv (3 : Int32), iv (3 : Int32), iv (1 : Int32)] [(.int (3 : Int32)), (.int (3 : Int32)), (.ref rr), (.int (3 : Int32)), (.ref t0)] _
    refine XS.isub X11.here hx rfl (hb hby d9_51) rfl ?_
    show own_At p e below T11 m 52 #[rv ap, iv (3 : Int32), iv (4 : Int32), rv rr, iv (3 : Int32), iv (3 : Int32), iv (1 : Int32)] [(.int ((3 : Int32) - (3 : Int32))), (.ref rr), (.int (3 : Int32)), (.ref t0)] _
    rw [show ((3 : Int32) - (3 : Int32)) = (0 : Int32) from (by decide +kernel)]
    show own_At p e below T11 m 52 #[rv ap, iv (3 : Int32), iv (4 : Int32), rv rr, iv (3 : Int32), iv (3 : Int32), iv (1 : Int32)] [(.int (0 : Int32)), (.ref rr), (.int (3 : Int32)), (.ref t0)] _
    refine XS.iload X11.here hx rfl (hb hby d9_52) rfl ?_
    show own_At p e below T11 m 54 #[rv ap, iv (3 : Int32), iv (4 : Int32), rv rr, iv (3 : Int32), iv (3 : Int32), iv (1 : Int32)] [(.int (1 : Int32)), (.int (0 : Int32)), (.ref rr), (.int (3 : Int32)), (.ref t0)] _
    exact kt)
  obtain ⟨T17, h17, L17, X17, e17, N17, K17, B17, ls17⟩ := own_cp X11 hx hZ hown (hw _ (List.mem_of_getElem? (i := 62) rfl)) (hw _ (List.mem_of_getElem? (i := 43) rfl)) (hw _ (List.mem_of_getElem? (i := 41) rfl)) (hw _ (List.mem_of_getElem? (i := 42) rfl)) eq11 (ty := .int) rfl f4 f7 (fun _ _ => rfl) (fun _ _ => rfl) (i := 3) (j := 0) (k := 1) (by decide) (by decide) (by decide) (by decide) (by decide) (by decide) (by decide) (by decide) N11 g_rr (g := (mkF m 54 #[rv ap, iv (3 : Int32), iv (4 : Int32), rv rr, iv (3 : Int32), iv (3 : Int32), iv (1 : Int32)] [(.int (1 : Int32)), (.int (0 : Int32)), (.ref rr), (.int (3 : Int32)), (.ref t0)])) rfl (by rw [hml]; rfl) rfl (hb hby d9_54) (by decide) (W := 0) (by show 2 * 0 + _ ≤ _; exact Nat.le_of_eq rfl) (by decide)
  have f18 := f3.keep K17 (ninS ne_ap_rr nin0)
  have f19 := f4.keep K17 (ninS ne_t0_rr nin0)
  have z21 := Nat.le_trans z5 K17.1
  have k22 := Keep.trans k6 K17 (allS (P := fun x => x ∈ [] ∨ h0.size ≤ x) (Or.inr sz_rr) all0)
  have f23 : own_Av Z h17 rr .int 1 (fun q => .int (gg (3 + q))) := B17.congr (fun q hq => match q, hq with | 0, _ => rfl | _ + 1, z => absurd z (by omega))
  have st24 : own_Go p e below (T17.setTop (mkF m 57 #[rv ap, iv (3 : Int32), iv (4 : Int32), rv rr, iv (3 : Int32), iv (3 : Int32), iv (1 : Int32)] [])) B0 := fun t kt => st16 t (ls17 t kt)
  have hc25 : ¬ ((4 : Int32) < (4 : Int32)) := by decide
  have st26 : own_Go p e below (T17.setTop (mkF m 68 #[rv ap, iv (3 : Int32), iv (4 : Int32), rv rr, iv (4 : Int32), iv (3 : Int32), iv (1 : Int32)] [(.ref rr)])) B0 := fun t kt => st24 t (by
    show own_At p e below T17 m 57 #[rv ap, iv (3 : Int32), iv (4 : Int32), rv rr, iv (3 : Int32), iv (3 : Int32), iv (1 : Int32)] [] _
    refine XS.iload X17.here hx rfl (hb hby d9_57) rfl ?_
    show own_At p e below T17 m 59 #[rv ap, iv (3 : Int32), iv (4 : Int32), rv rr, iv (3 : Int32), iv (3 : Int32), iv (1 : Int32)] [(.int (3 : Int32))] _
    refine XS.iload X17.here hx rfl (hb hby d9_59) rfl ?_
    show own_At p e below T17 m 61 #[rv ap, iv (3 : Int32), iv (4 : Int32), rv rr, iv (3 : Int32), iv (3 : Int32), iv (1 : Int32)] [(.int (1 : Int32)), (.int (3 : Int32))] _
    refine XS.iadd X17.here hx rfl (hb hby d9_61) rfl ?_
    show own_At p e below T17 m 62 #[rv ap, iv (3 : Int32), iv (4 : Int32), rv rr, iv (3 : Int32), iv (3 : Int32), iv (1 : Int32)] [(.int ((3 : Int32) + (1 : Int32)))] _
    rw [show ((3 : Int32) + (1 : Int32)) = (4 : Int32) from (by decide +kernel)]
    show own_At p e below T17 m 62 #[rv ap, iv (3 : Int32), iv (4 : Int32), rv rr, iv (3 : Int32), iv (3 : Int32), iv (1 : Int32)] [(.int (4 : Int32))] _
    refine XS.istore X17.here hx rfl (hb hby d9_62) rfl (l' := #[rv ap, iv (3 : Int32), iv (4 : Int32), rv rr, iv (4 : Int32), iv (3 : Int32), iv (1 : Int32)]) rfl ?_
    show own_At p e below T17 m 64 #[rv ap, iv (3 : Int32), iv (4 : Int32), rv rr, iv (4 : Int32), iv (3 : Int32), iv (1 : Int32)] [] _
    refine XS.goto X17.here hx rfl (pc0 := 64) (pc' := 9) rfl (hb hby d9_64) (by decide) (by decide) ?_
    show own_At p e below T17 m 9 #[rv ap, iv (3 : Int32), iv (4 : Int32), rv rr, iv (4 : Int32), iv (3 : Int32), iv (1 : Int32)] [] _
    refine XS.iload X17.here hx rfl (hb hby d9_9) rfl ?_
    show own_At p e below T17 m 11 #[rv ap, iv (3 : Int32), iv (4 : Int32), rv rr, iv (4 : Int32), iv (3 : Int32), iv (1 : Int32)] [(.int (4 : Int32))] _
    refine XS.iloadN X17.here hx rfl (hb hby d9_11) rfl ?_
    show own_At p e below T17 m 12 #[rv ap, iv (3 : Int32), iv (4 : Int32), rv rr, iv (4 : Int32), iv (3 : Int32), iv (1 : Int32)] [(.int (4 : Int32)), (.int (4 : Int32))] _
    refine XS.icmpYes X17.here hx rfl (pc0 := 12) (pc' := 67) rfl (hb hby d9_12) rfl (flt hc25).2.1 (by decide) (by decide) ?_
    show own_At p e below T17 m 67 #[rv ap, iv (3 : Int32), iv (4 : Int32), rv rr, iv (4 : Int32), iv (3 : Int32), iv (1 : Int32)] [] _
    refine XS.aloadN X17.here hx rfl (hb hby d9_67) rfl rfl ?_
    show own_At p e below T17 m 68 #[rv ap, iv (3 : Int32), iv (4 : Int32), rv rr, iv (4 : Int32), iv (3 : Int32), iv (1 : Int32)] [(.ref rr)] _
    exact kt)
  obtain ⟨fs, hr, hrun, hended, hW, hsame⟩ := X17.leave (v := (some (.ref rr))) (fun h => by rw [Bd.returns] at h; cases h)
  subst hB0
  refine ⟨_, _, st26 _ ?_, hrun, hended, _, _, rfl, ?_, ⟨_, rfl⟩, hW, hsame.mono (by decide) (by decide)⟩
  · exact retOut X17 hx Bd.returns rfl (Or.inr (Or.inr (Or.inr (Or.inr ⟨rfl, rfl, rfl⟩)))) (hb hby d9_68) hr
  · show Q_rm_cp_3_4 Z ap t0 gg h0 n0 _ T17.heap _
    rw [e17]
    exact ⟨rr, rfl, N17, k22, g_rr, sz_rr, f23⟩
def Q_rm_cp_16383_16385 (Z : State) (ap : Addr) (t0 : Addr) (t1 : Addr) (gg : Nat → Int32) (h0 : Heap) (n0 : Nat) (v : Option Value) (h : Heap) (L : List Loc) : Prop := ∃ b, v = some (.ref b) ∧ Fr n0 L ∧ Keep h0 h [] ∧ n0 ≤ b ∧ h0.size ≤ b ∧ own_Av Z h b .int 2 (fun q => .int (gg (16383 + q)))
set_option maxRecDepth 65536 in
set_option maxHeartbeats 40000000 in
theorem rm_cp_16383_16385 (l : Launch) (Z : State) (a0 : Array Value) (hw : ∀ d ∈ tables_1, d.before a0 Z = true) (ws : List Jvm.Cond) (ap : Addr) (t0 : Addr) (t1 : Addr) (gg : Nat → Int32) (h0 : Heap) (n0 : Nat) (Z0 : n0 ≤ h0.size) (Ap : own_Av Z h0 ap (.array .int) 2 (fun q => .ref (if q = 0 then t0 else t1))) (At0 : own_Av Z h0 t0 .int 16384 (fun q => .int (gg q))) (At1 : own_Av Z h0 t1 .int 2 (fun q => .int (gg (16384 + q)))) :
    MetFree l (⟨"com/example/ranked_text_search/rankedtextsearch/MemoryTermVectors", "copy", "([[III)[I"⟩ : MethodName) (head1 (Jvm.Cond.code (⟨"com/example/ranked_text_search/rankedtextsearch/MemoryTermVectors", "copy", "([[III)[I"⟩ : MethodName) prog_50_method_6_code 7 (some (.array .int)) :: ws) ({ frames := 1, cells := 1, slots := 2, locals := 18 } : Room)) (fun a U => a = #[(.ref ap), (.int (16383 : Int32)), (.int (16385 : Int32))] ∧ Z.Warmed39 U.vm ∧ U.heap = h0) (fun _ _ _ _ _ => True) (fun _ U o U' => ∃ v L, o = .returned v ∧ Q_rm_cp_16383_16385 Z ap t0 t1 gg h0 n0 v U'.heap L ∧ FrameEnd U o U' L ({ frames := 1, cells := 1, slots := 2, locals := 18 } : Room).cells ({ frames := 1, cells := 1, slots := 2, locals := 18 } : Room).slots) := by
  refine MetFree.of_bodySF (plainFor_of_name own_pn2) hisR ?_
  intro p e s m args below meth c s₁ Bd hml0 hP hK
  obtain ⟨rfl, hZ, hh⟩ := hP
  have hx := Bd.exec
  have hby := Bd.bytes
  have hml : c.maxLocals = 7 := hml0
  have hown : s.vm.findClass "com/example/ranked_text_search/rankedtextsearch/MemoryTermVectors" = some m.cls := findClass_of_methodNamed Bd.named
  have hnm := (name_of_methodNamed Bd.named Bd.method).1
  have X0 : Stand p l e ({ frames := 1, cells := 1, slots := 2, locals := 18 } : Room) s m #[(.ref ap), (.int (16383 : Int32)), (.int (16385 : Int32))] below meth c s₁ [] 0 0 := Stand.of_body Bd
  have e0 : s₁.heap = h0 := by rw [← hh, Bd.state]; rfl
  have N0 := Fr.nil n0
  obtain ⟨B0, hB0⟩ : ∃ B, B = (s₁.setTop (entryFrame m #[(.ref ap), (.int (16383 : Int32)), (.int (16385 : Int32))] 7)) := ⟨_, rfl⟩
  have st0 : own_Go p e below (s₁.setTop (mkF m 0 #[rv ap, iv (16383 : Int32), iv (16385 : Int32), .unset, .unset, .unset, .unset] [])) B0 := fun t k => hB0 ▸ castTop (own_ef9_RII m ap (16383 : Int32) (16385 : Int32)) k
  have k0 : Keep h0 h0 [] := Keep.refl _ _
  have st1 : own_Go p e below (s₁.setTop (mkF m 3 #[rv ap, iv (16383 : Int32), iv (16385 : Int32), .unset, .unset, .unset, .unset] [(.int (2 : Int32))])) B0 := fun t kt => st0 t (by
    show own_At p e below s₁ m 0 #[rv ap, iv (16383 : Int32), iv (16385 : Int32), .unset, .unset, .unset, .unset] [] _
    refine XS.iloadN X0.here hx rfl (hb hby d9_0) rfl ?_
    show own_At p e below s₁ m 1 #[rv ap, iv (16383 : Int32), iv (16385 : Int32), .unset, .unset, .unset, .unset] [(.int (16385 : Int32))] _
    refine XS.iloadN X0.here hx rfl (hb hby d9_1) rfl ?_
    show own_At p e below s₁ m 2 #[rv ap, iv (16383 : Int32), iv (16385 : Int32), .unset, .unset, .unset, .unset] [(.int (16383 : Int32)), (.int (16385 : Int32))] _
    refine XS.isub X0.here hx rfl (hb hby d9_2) rfl ?_
    show own_At p e below s₁ m 3 #[rv ap, iv (16383 : Int32), iv (16385 : Int32), .unset, .unset, .unset, .unset] [(.int ((16385 : Int32) - (16383 : Int32)))] _
    rw [show ((16385 : Int32) - (16383 : Int32)) = (2 : Int32) from (by decide +kernel)]
    show own_At p e below s₁ m 3 #[rv ap, iv (16383 : Int32), iv (16385 : Int32), .unset, .unset, .unset, .unset] [(.int (2 : Int32))] _
    exact kt)
  obtain ⟨T2, h2, c2, X2, e2, E2, A2, ls2⟩ := newP X0 hx hZ (hw _ (List.mem_of_getElem? (i := 7) rfl)) e0 (g := (mkF m 3 #[rv ap, iv (16383 : Int32), iv (16385 : Int32), .unset, .unset, .unset, .unset] [(.int (2 : Int32))])) rfl (hb hby d9_3) rfl (by decide) (cap := 2) (by decide) (by decide) (by decide) (by decide)
  obtain ⟨rr, g2⟩ : ∃ z, z = h0.size := ⟨_, rfl⟩
  rw [← g2] at A2 ls2
  have ne_ap_rr : ap ≠ rr := Nat.ne_of_lt (Nat.lt_of_lt_of_le Ap.lt (Nat.le_of_eq g2.symm))
  have ne_t0_rr : t0 ≠ rr := Nat.ne_of_lt (Nat.lt_of_lt_of_le At0.lt (Nat.le_of_eq g2.symm))
  have ne_t1_rr : t1 ≠ rr := Nat.ne_of_lt (Nat.lt_of_lt_of_le At1.lt (Nat.le_of_eq g2.symm))
  have g_rr : n0 ≤ rr := Nat.le_trans Z0 (Nat.le_of_eq g2.symm)
  have sz_rr : h0.size ≤ rr := Nat.le_trans k0.1 (Nat.le_of_eq g2.symm)
  have f3 := Ap.ext E2
  have f4 := At0.ext E2
  have f5 := At1.ext E2
  have z6 := Nat.le_trans Z0 E2.1
  have k7 := k0.ext E2
  have f8 : own_Av Z h2 rr .int 2 (fun _ => (.int (0 : Int32))) := own_Av.new A2 (by decide) (by decide)
  have st9 : own_Go p e below (T2.setTop (mkF m 5 #[rv ap, iv (16383 : Int32), iv (16385 : Int32), .unset, .unset, .unset, .unset] [(.ref rr)])) B0 := fun t kt => st1 t (ls2 t kt)
  have hc10 : (16383 : Int32) < (16385 : Int32) := by decide
  have st11 : own_Go p e below (T2.setTop (mkF m 33 #[rv ap, iv (16383 : Int32), iv (16385 : Int32), rv rr, iv (16383 : Int32), iv (16383 : Int32), .unset] [(.int (1 : Int32)), (.int (2 : Int32))])) B0 := fun t kt => st9 t (by
    show own_At p e below T2 m 5 #[rv ap, iv (16383 : Int32), iv (16385 : Int32), .unset, .unset, .unset, .unset] [(.ref rr)] _
    refine XS.astoreN X2.here hx rfl (hb hby d9_5) rfl rfl (l' := #[rv ap, iv (16383 : Int32), iv (16385 : Int32), rv rr, .unset, .unset, .unset]) rfl ?_
    show own_At p e below T2 m 6 #[rv ap, iv (16383 : Int32), iv (16385 : Int32), rv rr, .unset, .unset, .unset] [] _
    refine XS.iloadN X2.here hx rfl (hb hby d9_6) rfl ?_
    show own_At p e below T2 m 7 #[rv ap, iv (16383 : Int32), iv (16385 : Int32), rv rr, .unset, .unset, .unset] [(.int (16383 : Int32))] _
    refine XS.istore X2.here hx rfl (hb hby d9_7) rfl (l' := #[rv ap, iv (16383 : Int32), iv (16385 : Int32), rv rr, iv (16383 : Int32), .unset, .unset]) rfl ?_
    show own_At p e below T2 m 9 #[rv ap, iv (16383 : Int32), iv (16385 : Int32), rv rr, iv (16383 : Int32), .unset, .unset] [] _
    refine XS.iload X2.here hx rfl (hb hby d9_9) rfl ?_
    show own_At p e below T2 m 11 #[rv ap, iv (16383 : Int32), iv (16385 : Int32), rv rr, iv (16383 : Int32), .unset, .unset] [(.int (16383 : Int32))] _
    refine XS.iloadN X2.here hx rfl (hb hby d9_11) rfl ?_
    show own_At p e below T2 m 12 #[rv ap, iv (16383 : Int32), iv (16385 : Int32), rv rr, iv (16383 : Int32), .unset, .unset] [(.int (16385 : Int32)), (.int (16383 : Int32))] _
    refine XS.icmpNo X2.here hx rfl (hb hby d9_12) rfl (tlt hc10).2.1 ?_
    show own_At p e below T2 m 15 #[rv ap, iv (16383 : Int32), iv (16385 : Int32), rv rr, iv (16383 : Int32), .unset, .unset] [] _
    refine XS.iload X2.here hx rfl (hb hby d9_15) rfl ?_
    show own_At p e below T2 m 17 #[rv ap, iv (16383 : Int32), iv (16385 : Int32), rv rr, iv (16383 : Int32), .unset, .unset] [(.int (16383 : Int32))] _
    refine XS.sipush X2.here hx rfl (hb hby d9_17) ?_
    show own_At p e below T2 m 20 #[rv ap, iv (16383 : Int32), iv (16385 : Int32), rv rr, iv (16383 : Int32), .unset, .unset] [(.int (16383 : Int32)), (.int (16383 : Int32))] _
    refine XS.iand X2.here hx rfl (hb hby d9_20) rfl ?_
    show own_At p e below T2 m 21 #[rv ap, iv (16383 : Int32), iv (16385 : Int32), rv rr, iv (16383 : Int32), .unset, .unset] [(.int ((16383 : Int32) &&& (16383 : Int32)))] _
    rw [show ((16383 : Int32) &&& (16383 : Int32)) = (16383 : Int32) from (by decide +kernel)]
    show own_At p e below T2 m 21 #[rv ap, iv (16383 : Int32), iv (16385 : Int32), rv rr, iv (16383 : Int32), .unset, .unset] [(.int (16383 : Int32))] _
    refine XS.istore X2.here hx rfl (hb hby d9_21) rfl (l' := #[rv ap, iv (16383 : Int32), iv (16385 : Int32), rv rr, iv (16383 : Int32), iv (16383 : Int32), .unset]) rfl ?_
    show own_At p e below T2 m 23 #[rv ap, iv (16383 : Int32), iv (16385 : Int32), rv rr, iv (16383 : Int32), iv (16383 : Int32), .unset] [] _
    refine XS.iloadN X2.here hx rfl (hb hby d9_23) rfl ?_
    show own_At p e below T2 m 24 #[rv ap, iv (16383 : Int32), iv (16385 : Int32), rv rr, iv (16383 : Int32), iv (16383 : Int32), .unset] [(.int (16385 : Int32))] _
    refine XS.iload X2.here hx rfl (hb hby d9_24) rfl ?_
    show own_At p e below T2 m 26 #[rv ap, iv (16383 : Int32), iv (16385 : Int32), rv rr, iv (16383 : Int32), iv (16383 : Int32), .unset] [(.int (16383 : Int32)), (.int (16385 : Int32))] _
    refine XS.isub X2.here hx rfl (hb hby d9_26) rfl ?_
    show own_At p e below T2 m 27 #[rv ap, iv (16383 : Int32), iv (16385 : Int32), rv rr, iv (16383 : Int32), iv (16383 : Int32), .unset] [(.int ((16385 : Int32) - (16383 : Int32)))] _
    rw [show ((16385 : Int32) - (16383 : Int32)) = (2 : Int32) from (by decide +kernel)]
    show own_At p e below T2 m 27 #[rv ap, iv (16383 : Int32), iv (16385 : Int32), rv rr, iv (16383 : Int32), iv (16383 : Int32), .unset] [(.int (2 : Int32))] _
    refine XS.sipush X2.here hx rfl (hb hby d9_27) ?_
    show own_At p e below T2 m 30 #[rv ap, iv (16383 : Int32), iv (16385 : Int32), rv rr, iv (16383 : Int32), iv (16383 : Int32), .unset] [(.int (16384 : Int32)), (.int (2 : Int32))] _
    refine XS.iload X2.here hx rfl (hb hby d9_30) rfl ?_
    show own_At p e below T2 m 32 #[rv ap, iv (16383 : Int32), iv (16385 : Int32), rv rr, iv (16383 : Int32), iv (16383 : Int32), .unset] [(.int (16383 : Int32)), (.int (16384 : Int32)), (.int (2 : Int32))] _
    refine XS.isub X2.here hx rfl (hb hby d9_32) rfl ?_
    show own_At p e below T2 m 33 #[rv ap, iv (16383 : Int32), iv (16385 : Int32), rv rr, iv (16383 : Int32), iv (16383 : Int32), .unset] [(.int ((16384 : Int32) - (16383 : Int32))), (.int (2 : Int32))] _
    rw [show ((16384 : Int32) - (16383 : Int32)) = (1 : Int32) from (by decide +kernel)]
    show own_At p e below T2 m 33 #[rv ap, iv (16383 : Int32), iv (16385 : Int32), rv rr, iv (16383 : Int32), iv (16383 : Int32), .unset] [(.int (1 : Int32)), (.int (2 : Int32))] _
    exact kt)
  obtain ⟨_, _, ⟨T12, L12, k12, n12⟩, -, X12, ⟨Lc12, hQ12, l12, y12, z12⟩, ls12⟩ := Jvm.LawKit.callS X2 hx (y := (⟨"java/lang/Math", "min", "(II)I"⟩ : MethodName)) hown (mvT hZ (hw _ (List.mem_of_getElem? (i := 29) rfl))) (mvT hZ (hw _ (List.mem_of_getElem? (i := 1) rfl))) (mvT hZ (hw _ (List.mem_of_getElem? (i := 2) rfl))) (mvT hZ (hw _ (List.mem_of_getElem? (i := 3) rfl))) (by decide) (backOf (W := 0) (rm_min l Z a0 hw [] ((2 : Int32)) ((1 : Int32)) h2 n0 z6) hZ (hw _ (List.mem_of_getElem? (i := 3) rfl)) (hw _ (List.mem_of_getElem? (i := 2) rfl)) (by decide) (by decide)) (g := (mkF m 33 #[rv ap, iv (16383 : Int32), iv (16385 : Int32), rv rr, iv (16383 : Int32), iv (16383 : Int32), .unset] [(.int (1 : Int32)), (.int (2 : Int32))])) rfl (by rw [hml]; rfl) (argsL := [(.int (2 : Int32)), (.int (1 : Int32))]) (rest := []) (lenOf own_pd0 rfl) rfl (by show 2 * 0 + _ ≤ _; exact Nat.le_of_eq rfl) (hb hby d9_33) (fun _ _ => ⟨rfl, e2, (by decide : 1 + 0 ≤ _), (by decide : 2 + 0 ≤ _)⟩)
  dsimp only [Pt.U, Pt.locs, Pt.cells, Pt.slots] at X12 l12 y12 z12 ls12 hQ12
  subst l12 y12 z12
  obtain ⟨rfl, Nq12, eq12⟩ := hQ12
  have N12 := Fr.app N0 Nq12
  have st13 : own_Go p e below (T12.setTop (mkF m 36 #[rv ap, iv (16383 : Int32), iv (16385 : Int32), rv rr, iv (16383 : Int32), iv (16383 : Int32), .unset] [(.int (own_mn (2 : Int32) (1 : Int32)))])) B0 := fun t kt => st11 t (ls12 t kt)
  have st14 : own_Go p e below (T12.setTop (mkF m 44 #[rv ap, iv (16383 : Int32), iv (16385 : Int32), rv rr, iv (16383 : Int32), iv (16383 : Int32), iv (1 : Int32)] [(.int (0 : Int32)), (.ref ap)])) B0 := fun t kt => st13 t (by
    show own_At p e below T12 m 36 #[rv ap, iv (16383 : Int32), iv (16385 : Int32), rv rr, iv (16383 : Int32), iv (16383 : Int32), .unset] [(.int (own_mn (2 : Int32) (1 : Int32)))] _
    rw [show (own_mn (2 : Int32) (1 : Int32)) = (1 : Int32) from (by decide +kernel)]
    show own_At p e below T12 m 36 #[rv ap, iv (16383 : Int32), iv (16385 : Int32), rv rr, iv (16383 : Int32), iv (16383 : Int32), .unset] [(.int (1 : Int32))] _
    refine XS.istore X12.here hx rfl (hb hby d9_36) rfl (l' := #[rv ap, iv (16383 : Int32), iv (16385 : Int32), rv rr, iv (16383 : Int32), iv (16383 : Int32), iv (1 : Int32)]) rfl ?_
    show own_At p e below T12 m 38 #[rv ap, iv (16383 : Int32), iv (16385 : Int32), rv rr, iv (16383 : Int32), iv (16383 : Int32), iv (1 : Int32)] [] _
    refine XS.aloadN X12.here hx rfl (hb hby d9_38) rfl rfl ?_
    show own_At p e below T12 m 39 #[rv ap, iv (16383 : Int32), iv (16385 : Int32), rv rr, iv (16383 : Int32), iv (16383 : Int32), iv (1 : Int32)] [(.ref ap)] _
    refine XS.iload X12.here hx rfl (hb hby d9_39) rfl ?_
    show own_At p e below T12 m 41 #[rv ap, iv (16383 : Int32), iv (16385 : Int32), rv rr, iv (16383 : Int32), iv (16383 : Int32), iv (1 : Int32)] [(.int (16383 : Int32)), (.ref ap)] _
    refine XS.bipush X12.here hx rfl (hb hby d9_41) ?_
    show own_At p e below T12 m 43 #[rv ap, iv (16383 : Int32), iv (16385 : Int32), rv rr, iv (16383 : Int32), iv (16383 : Int32), iv (1 : Int32)] [(.int (14 : Int32)), (.int (16383 : Int32)), (.ref ap)] _
    refine XS.iushr X12.here hx rfl (hb hby d9_43) rfl ?_
    show own_At p e below T12 m 44 #[rv ap, iv (16383 : Int32), iv (16385 : Int32), rv rr, iv (16383 : Int32), iv (16383 : Int32), iv (1 : Int32)] [(.int (((16383 : Int32).toUInt32 >>> ((14 : Int32) &&& 31).toUInt32).toInt32)), (.ref ap)] _
    rw [show (((16383 : Int32).toUInt32 >>> ((14 : Int32) &&& 31).toUInt32).toInt32) = (0 : Int32) from (by decide +kernel)]
    show own_At p e below T12 m 44 #[rv ap, iv (16383 : Int32), iv (16385 : Int32), rv rr, iv (16383 : Int32), iv (16383 : Int32), iv (1 : Int32)] [(.int (0 : Int32)), (.ref ap)] _
    exact kt)
  have ls15 := own_aaload (ty := (.array .int)) rfl X12 hx hZ eq12 f3 (j := (0 : Int32)) (i := 0) (by decide) (by decide) (by decide) (v := (.ref t0)) (rfl) (g := (mkF m 44 #[rv ap, iv (16383 : Int32), iv (16385 : Int32), rv rr, iv (16383 : Int32), iv (16383 : Int32), iv (1 : Int32)] [(.int (0 : Int32)), (.ref ap)])) rfl rfl (hb hby d9_44)
  have st16 : own_Go p e below (T12.setTop (mkF m 45 #[rv ap, iv (16383 : Int32), iv (16385 : Int32), rv rr, iv (16383 : Int32), iv (16383 : Int32), iv (1 : Int32)] [(.ref t0)])) B0 := fun t kt => st14 t (ls15 t kt)
  have st17 : own_Go p e below (T12.setTop (mkF m 54 #[rv ap, iv (16383 : Int32), iv (16385 : Int32), rv rr, iv (16383 : Int32), iv (16383 : Int32), iv (1 : Int32)] [(.int (1 : Int32)), (.int (0 : Int32)), (.ref rr), (.int (16383 : Int32)), (.ref t0)])) B0 := fun t kt => st16 t (by
    show own_At p e below T12 m 45 #[rv ap, iv (16383 : Int32), iv (16385 : Int32), rv rr, iv (16383 : Int32), iv (16383 : Int32), iv (1 : Int32)] [(.ref t0)] _
    refine XS.iload X12.here hx rfl (hb hby d9_45) rfl ?_
    show own_At p e below T12 m 47 #[rv ap, iv (16383 : Int32), iv (16385 : Int32), rv rr, iv (16383 : Int32), iv (16383 : Int32), iv (1 : Int32)] [(.int (16383 : Int32)), (.ref t0)] _
    refine XS.aloadN X12.here hx rfl (hb hby d9_47) rfl rfl ?_
    show own_At p e below T12 m 48 #[rv ap, iv (16383 : Int32), iv (16385 : Int32), rv rr, iv (16383 : Int32), iv (16383 : Int32), iv (1 : Int32)] [(.ref rr), (.int (16383 : Int32)), (.ref t0)] _
    refine XS.iload X12.here hx rfl (hb hby d9_48) rfl ?_
    show own_At p e below T12 m 50 #[rv ap, iv (16383 : Int32), iv (16385 : Int32), rv rr, iv (16383 : Int32), iv (16383 : Int32), iv (1 : Int32)] [(.int (16383 : Int32)), (.ref rr), (.int (16383 : Int32)), (.ref t0)] _
    refine XS.iloadN X12.here hx rfl (hb hby d9_50) rfl ?_
    show own_At p e below T12 m 51 #[rv ap, iv (16383 : Int32), iv (16385 : Int32), rv rr, iv (16383 : Int32), iv (16383 : Int32), iv (1 : Int32)] [(.int (16383 : Int32)), (.int (16383 : Int32)), (.ref rr), (.int (16383 : Int32)), (.ref t0)] _
    refine XS.isub X12.here hx rfl (hb hby d9_51) rfl ?_
    show own_At p e below T12 m 52 #[rv ap, iv (16383 : Int32), iv (16385 : Int32), rv rr, iv (16383 : Int32), iv (16383 : Int32), iv (1 : Int32)] [(.int ((16383 : Int32) - (16383 : Int32))), (.ref rr), (.int (16383 : Int32)), (.ref t0)] _
    rw [show ((16383 : Int32) - (16383 : Int32)) = (0 : Int32) from (by decide +kernel)]
    show own_At p e below T12 m 52 #[rv ap, iv (16383 : Int32), iv (16385 : Int32), rv rr, iv (16383 : Int32), iv (16383 : Int32), iv (1 : Int32)] [(.int (0 : Int32)), (.ref rr), (.int (16383 : Int32)), (.ref t0)] _
    refine XS.iload X12.here hx rfl (hb hby d9_52) rfl ?_
    show own_At p e below T12 m 54 #[rv ap, iv (16383 : Int32), iv (16385 : Int32), rv rr, iv (16383 : Int32), iv (16383 : Int32), iv (1 : Int32)] [(.int (1 : Int32)), (.int (0 : Int32)), (.ref rr), (.int (16383 : Int32)), (.ref t0)] _
    exact kt)
  obtain ⟨T18, h18, L18, X18, e18, N18, K18, B18, ls18⟩ := own_cp X12 hx hZ hown (hw _ (List.mem_of_getElem? (i := 62) rfl)) (hw _ (List.mem_of_getElem? (i := 43) rfl)) (hw _ (List.mem_of_getElem? (i := 41) rfl)) (hw _ (List.mem_of_getElem? (i := 42) rfl)) eq12 (ty := .int) rfl f4 f8 (fun _ _ => rfl) (fun _ _ => rfl) (i := 16383) (j := 0) (k := 1) (by decide) (by decide) (by decide) (by decide) (by decide) (by decide) (by decide) (by decide) N12 g_rr (g := (mkF m 54 #[rv ap, iv (16383 : Int32), iv (16385 : Int32), rv rr, iv (16383 : Int32), iv (16383 : Int32), iv (1 : Int32)] [(.int (1 : Int32)), (.int (0 : Int32)), (.ref rr), (.int (16383 : Int32)), (.ref t0)])) rfl (by rw [hml]; rfl) rfl (hb hby d9_54) (by decide) (W := 0) (by show 2 * 0 + _ ≤ _; exact Nat.le_of_eq rfl) (by decide)
  have f19 := f3.keep K18 (ninS ne_ap_rr nin0)
  have f20 := f4.keep K18 (ninS ne_t0_rr nin0)
  have f21 := f5.keep K18 (ninS ne_t1_rr nin0)
  have z23 := Nat.le_trans z6 K18.1
  have k24 := Keep.trans k7 K18 (allS (P := fun x => x ∈ [] ∨ h0.size ≤ x) (Or.inr sz_rr) all0)
  have st25 : own_Go p e below (T18.setTop (mkF m 57 #[rv ap, iv (16383 : Int32), iv (16385 : Int32), rv rr, iv (16383 : Int32), iv (16383 : Int32), iv (1 : Int32)] [])) B0 := fun t kt => st17 t (ls18 t kt)
  have hc26 : (16384 : Int32) < (16385 : Int32) := by decide
  have st27 : own_Go p e below (T18.setTop (mkF m 33 #[rv ap, iv (16383 : Int32), iv (16385 : Int32), rv rr, iv (16384 : Int32), iv (0 : Int32), iv (1 : Int32)] [(.int (16384 : Int32)), (.int (1 : Int32))])) B0 := fun t kt => st25 t (by
    show own_At p e below T18 m 57 #[rv ap, iv (16383 : Int32), iv (16385 : Int32), rv rr, iv (16383 : Int32), iv (16383 : Int32), iv (1 : Int32)] [] _
    refine XS.iload X18.here hx rfl (hb hby d9_57) rfl ?_
    show own_At p e below T18 m 59 #[rv ap, iv (16383 : Int32), iv (16385 : Int32), rv rr, iv (16383 : Int32), iv (16383 : Int32), iv (1 : Int32)] [(.int (16383 : Int32))] _
    refine XS.iload X18.here hx rfl (hb hby d9_59) rfl ?_
    show own_At p e below T18 m 61 #[rv ap, iv (16383 : Int32), iv (16385 : Int32), rv rr, iv (16383 : Int32), iv (16383 : Int32), iv (1 : Int32)] [(.int (1 : Int32)), (.int (16383 : Int32))] _
    refine XS.iadd X18.here hx rfl (hb hby d9_61) rfl ?_
    show own_At p e below T18 m 62 #[rv ap, iv (16383 : Int32), iv (16385 : Int32), rv rr, iv (16383 : Int32), iv (16383 : Int32), iv (1 : Int32)] [(.int ((16383 : Int32) + (1 : Int32)))] _
    rw [show ((16383 : Int32) + (1 : Int32)) = (16384 : Int32) from (by decide +kernel)]
    show own_At p e below T18 m 62 #[rv ap, iv (16383 : Int32), iv (16385 : Int32), rv rr, iv (16383 : Int32), iv (16383 : Int32), iv (1 : Int32)] [(.int (16384 : Int32))] _
    refine XS.istore X18.here hx rfl (hb hby d9_62) rfl (l' := #[rv ap, iv (16383 : Int32), iv (16385 : Int32), rv rr, iv (16384 : Int32), iv (16383 : Int32), iv (1 : Int32)]) rfl ?_
    show own_At p e below T18 m 64 #[rv ap, iv (16383 : Int32), iv (16385 : Int32), rv rr, iv (16384 : Int32), iv (16383 : Int32), iv (1 : Int32)] [] _
    refine XS.goto X18.here hx rfl (pc0 := 64) (pc' := 9) rfl (hb hby d9_64) (by decide) (by decide) ?_
    show own_At p e below T18 m 9 #[rv ap, iv (16383 : Int32), iv (16385 : Int32), rv rr, iv (16384 : Int32), iv (16383 : Int32), iv (1 : Int32)] [] _
    refine XS.iload X18.here hx rfl (hb hby d9_9) rfl ?_
    show own_At p e below T18 m 11 #[rv ap, iv (16383 : Int32), iv (16385 : Int32), rv rr, iv (16384 : Int32), iv (16383 : Int32), iv (1 : Int32)] [(.int (16384 : Int32))] _
    refine XS.iloadN X18.here hx rfl (hb hby d9_11) rfl ?_
    show own_At p e below T18 m 12 #[rv ap, iv (16383 : Int32), iv (16385 : Int32), rv rr, iv (16384 : Int32), iv (16383 : Int32), iv (1 : Int32)] [(.int (16385 : Int32)), (.int (16384 : Int32))] _
    refine XS.icmpNo X18.here hx rfl (hb hby d9_12) rfl (tlt hc26).2.1 ?_
    show own_At p e below T18 m 15 #[rv ap, iv (16383 : Int32), iv (16385 : Int32), rv rr, iv (16384 : Int32), iv (16383 : Int32), iv (1 : Int32)] [] _
    refine XS.iload X18.here hx rfl (hb hby d9_15) rfl ?_
    show own_At p e below T18 m 17 #[rv ap, iv (16383 : Int32), iv (16385 : Int32), rv rr, iv (16384 : Int32), iv (16383 : Int32), iv (1 : Int32)] [(.int (16384 : Int32))] _
    refine XS.sipush X18.here hx rfl (hb hby d9_17) ?_
    show own_At p e below T18 m 20 #[rv ap, iv (16383 : Int32), iv (16385 : Int32), rv rr, iv (16384 : Int32), iv (16383 : Int32), iv (1 : Int32)] [(.int (16383 : Int32)), (.int (16384 : Int32))] _
    refine XS.iand X18.here hx rfl (hb hby d9_20) rfl ?_
    show own_At p e below T18 m 21 #[rv ap, iv (16383 : Int32), iv (16385 : Int32), rv rr, iv (16384 : Int32), iv (16383 : Int32), iv (1 : Int32)] [(.int ((16384 : Int32) &&& (16383 : Int32)))] _
    rw [show ((16384 : Int32) &&& (16383 : Int32)) = (0 : Int32) from (by decide +kernel)]
    show own_At p e below T18 m 21 #[rv ap, iv (16383 : Int32), iv (16385 : Int32), rv rr, iv (16384 : Int32), iv (16383 : Int32), iv (1 : Int32)] [(.int (0 : Int32))] _
    refine XS.istore X18.here hx rfl (hb hby d9_21) rfl (l' := #[rv ap, iv (16383 : Int32), iv (16385 : Int32), rv rr, iv (16384 : Int32), iv (0 : Int32), iv (1 : Int32)]) rfl ?_
    show own_At p e below T18 m 23 #[rv ap, iv (16383 : Int32), iv (16385 : Int32), rv rr, iv (16384 : Int32), iv (0 : Int32), iv (1 : Int32)] [] _
    refine XS.iloadN X18.here hx rfl (hb hby d9_23) rfl ?_
    show own_At p e below T18 m 24 #[rv ap, iv (16383 : Int32), iv (16385 : Int32), rv rr, iv (16384 : Int32), iv (0 : Int32), iv (1 : Int32)] [(.int (16385 : Int32))] _
    refine XS.iload X18.here hx rfl (hb hby d9_24) rfl ?_
    show own_At p e below T18 m 26 #[rv ap, iv (16383 : Int32), iv (16385 : Int32), rv rr, iv (16384 : Int32), iv (0 : Int32), iv (1 : Int32)] [(.int (16384 : Int32)), (.int (16385 : Int32))] _
    refine XS.isub X18.here hx rfl (hb hby d9_26) rfl ?_
    show own_At p e below T18 m 27 #[rv ap, iv (16383 : Int32), iv (16385 : Int32), rv rr, iv (16384 : Int32), iv (0 : Int32), iv (1 : Int32)] [(.int ((16385 : Int32) - (16384 : Int32)))] _
    rw [show ((16385 : Int32) - (16384 : Int32)) = (1 : Int32) from (by decide +kernel)]
    show own_At p e below T18 m 27 #[rv ap, iv (16383 : Int32), iv (16385 : Int32), rv rr, iv (16384 : Int32), iv (0 : Int32), iv (1 : Int32)] [(.int (1 : Int32))] _
    refine XS.sipush X18.here hx rfl (hb hby d9_27) ?_
    show own_At p e below T18 m 30 #[rv ap, iv (16383 : Int32), iv (16385 : Int32), rv rr, iv (16384 : Int32), iv (0 : Int32), iv (1 : Int32)] [(.int (16384 : Int32)), (.int (1 : Int32))] _
    refine XS.iload X18.here hx rfl (hb hby d9_30) rfl ?_
    show own_At p e below T18 m 32 #[rv ap, iv (16383 : Int32), iv (16385 : Int32), rv rr, iv (16384 : Int32), iv (0 : Int32), iv (1 : Int32)] [(.int (0 : Int32)), (.int (16384 : Int32)), (.int (1 : Int32))] _
    refine XS.isub X18.here hx rfl (hb hby d9_32) rfl ?_
    show own_At p e below T18 m 33 #[rv ap, iv (16383 : Int32), iv (16385 : Int32), rv rr, iv (16384 : Int32), iv (0 : Int32), iv (1 : Int32)] [(.int ((16384 : Int32) - (0 : Int32))), (.int (1 : Int32))] _
    rw [show ((16384 : Int32) - (0 : Int32)) = (16384 : Int32) from (by decide +kernel)]
    show own_At p e below T18 m 33 #[rv ap, iv (16383 : Int32), iv (16385 : Int32), rv rr, iv (16384 : Int32), iv (0 : Int32), iv (1 : Int32)] [(.int (16384 : Int32)), (.int (1 : Int32))] _
    exact kt)
  obtain ⟨_, _, ⟨T28, L28, k28, n28⟩, -, X28, ⟨Lc28, hQ28, l28, y28, z28⟩, ls28⟩ := Jvm.LawKit.callS X18 hx (y := (⟨"java/lang/Math", "min", "(II)I"⟩ : MethodName)) hown (mvT hZ (hw _ (List.mem_of_getElem? (i := 29) rfl))) (mvT hZ (hw _ (List.mem_of_getElem? (i := 1) rfl))) (mvT hZ (hw _ (List.mem_of_getElem? (i := 2) rfl))) (mvT hZ (hw _ (List.mem_of_getElem? (i := 3) rfl))) (by decide) (backOf (W := 0) (rm_min l Z a0 hw [] ((1 : Int32)) ((16384 : Int32)) h18 n0 z23) hZ (hw _ (List.mem_of_getElem? (i := 3) rfl)) (hw _ (List.mem_of_getElem? (i := 2) rfl)) (by decide) (by decide)) (g := (mkF m 33 #[rv ap, iv (16383 : Int32), iv (16385 : Int32), rv rr, iv (16384 : Int32), iv (0 : Int32), iv (1 : Int32)] [(.int (16384 : Int32)), (.int (1 : Int32))])) rfl (by rw [hml]; rfl) (argsL := [(.int (1 : Int32)), (.int (16384 : Int32))]) (rest := []) (lenOf own_pd0 rfl) rfl (by show 2 * 0 + _ ≤ _; exact Nat.le_of_eq rfl) (hb hby d9_33) (fun _ _ => ⟨rfl, e18, (by decide : 1 + 0 ≤ _), (by decide : 2 + 0 ≤ _)⟩)
  dsimp only [Pt.U, Pt.locs, Pt.cells, Pt.slots] at X28 l28 y28 z28 ls28 hQ28
  subst l28 y28 z28
  obtain ⟨rfl, Nq28, eq28⟩ := hQ28
  have N28 := Fr.app N18 Nq28
  have st29 : own_Go p e below (T28.setTop (mkF m 36 #[rv ap, iv (16383 : Int32), iv (16385 : Int32), rv rr, iv (16384 : Int32), iv (0 : Int32), iv (1 : Int32)] [(.int (own_mn (1 : Int32) (16384 : Int32)))])) B0 := fun t kt => st27 t (ls28 t kt)
  have st30 : own_Go p e below (T28.setTop (mkF m 44 #[rv ap, iv (16383 : Int32), iv (16385 : Int32), rv rr, iv (16384 : Int32), iv (0 : Int32), iv (1 : Int32)] [(.int (1 : Int32)), (.ref ap)])) B0 := fun t kt => st29 t (by
    show own_At p e below T28 m 36 #[rv ap, iv (16383 : Int32), iv (16385 : Int32), rv rr, iv (16384 : Int32), iv (0 : Int32), iv (1 : Int32)] [(.int (own_mn (1 : Int32) (16384 : Int32)))] _
    rw [show (own_mn (1 : Int32) (16384 : Int32)) = (1 : Int32) from (by decide +kernel)]
    show own_At p e below T28 m 36 #[rv ap, iv (16383 : Int32), iv (16385 : Int32), rv rr, iv (16384 : Int32), iv (0 : Int32), iv (1 : Int32)] [(.int (1 : Int32))] _
    refine XS.istore X28.here hx rfl (hb hby d9_36) rfl (l' := #[rv ap, iv (16383 : Int32), iv (16385 : Int32), rv rr, iv (16384 : Int32), iv (0 : Int32), iv (1 : Int32)]) rfl ?_
    show own_At p e below T28 m 38 #[rv ap, iv (16383 : Int32), iv (16385 : Int32), rv rr, iv (16384 : Int32), iv (0 : Int32), iv (1 : Int32)] [] _
    refine XS.aloadN X28.here hx rfl (hb hby d9_38) rfl rfl ?_
    show own_At p e below T28 m 39 #[rv ap, iv (16383 : Int32), iv (16385 : Int32), rv rr, iv (16384 : Int32), iv (0 : Int32), iv (1 : Int32)] [(.ref ap)] _
    refine XS.iload X28.here hx rfl (hb hby d9_39) rfl ?_
    show own_At p e below T28 m 41 #[rv ap, iv (16383 : Int32), iv (16385 : Int32), rv rr, iv (16384 : Int32), iv (0 : Int32), iv (1 : Int32)] [(.int (16384 : Int32)), (.ref ap)] _
    refine XS.bipush X28.here hx rfl (hb hby d9_41) ?_
    show own_At p e below T28 m 43 #[rv ap, iv (16383 : Int32), iv (16385 : Int32), rv rr, iv (16384 : Int32), iv (0 : Int32), iv (1 : Int32)] [(.int (14 : Int32)), (.int (16384 : Int32)), (.ref ap)] _
    refine XS.iushr X28.here hx rfl (hb hby d9_43) rfl ?_
    show own_At p e below T28 m 44 #[rv ap, iv (16383 : Int32), iv (16385 : Int32), rv rr, iv (16384 : Int32), iv (0 : Int32), iv (1 : Int32)] [(.int (((16384 : Int32).toUInt32 >>> ((14 : Int32) &&& 31).toUInt32).toInt32)), (.ref ap)] _
    rw [show (((16384 : Int32).toUInt32 >>> ((14 : Int32) &&& 31).toUInt32).toInt32) = (1 : Int32) from (by decide +kernel)]
    show own_At p e below T28 m 44 #[rv ap, iv (16383 : Int32), iv (16385 : Int32), rv rr, iv (16384 : Int32), iv (0 : Int32), iv (1 : Int32)] [(.int (1 : Int32)), (.ref ap)] _
    exact kt)
  have ls31 := own_aaload (ty := (.array .int)) rfl X28 hx hZ eq28 f19 (j := (1 : Int32)) (i := 1) (by decide) (by decide) (by decide) (v := (.ref t1)) (rfl) (g := (mkF m 44 #[rv ap, iv (16383 : Int32), iv (16385 : Int32), rv rr, iv (16384 : Int32), iv (0 : Int32), iv (1 : Int32)] [(.int (1 : Int32)), (.ref ap)])) rfl rfl (hb hby d9_44)
  have st32 : own_Go p e below (T28.setTop (mkF m 45 #[rv ap, iv (16383 : Int32), iv (16385 : Int32), rv rr, iv (16384 : Int32), iv (0 : Int32), iv (1 : Int32)] [(.ref t1)])) B0 := fun t kt => st30 t (ls31 t kt)
  have st33 : own_Go p e below (T28.setTop (mkF m 54 #[rv ap, iv (16383 : Int32), iv (16385 : Int32), rv rr, iv (16384 : Int32), iv (0 : Int32), iv (1 : Int32)] [(.int (1 : Int32)), (.int (1 : Int32)), (.ref rr), (.int (0 : Int32)), (.ref t1)])) B0 := fun t kt => st32 t (by
    show own_At p e below T28 m 45 #[rv ap, iv (16383 : Int32), iv (16385 : Int32), rv rr, iv (16384 : Int32), iv (0 : Int32), iv (1 : Int32)] [(.ref t1)] _
    refine XS.iload X28.here hx rfl (hb hby d9_45) rfl ?_
    show own_At p e below T28 m 47 #[rv ap, iv (16383 : Int32), iv (16385 : Int32), rv rr, iv (16384 : Int32), iv (0 : Int32), iv (1 : Int32)] [(.int (0 : Int32)), (.ref t1)] _
    refine XS.aloadN X28.here hx rfl (hb hby d9_47) rfl rfl ?_
    show own_At p e below T28 m 48 #[rv ap, iv (16383 : Int32), iv (16385 : Int32), rv rr, iv (16384 : Int32), iv (0 : Int32), iv (1 : Int32)] [(.ref rr), (.int (0 : Int32)), (.ref t1)] _
    refine XS.iload X28.here hx rfl (hb hby d9_48) rfl ?_
    show own_At p e below T28 m 50 #[rv ap, iv (16383 : Int32), iv (16385 : Int32), rv rr, iv (16384 : Int32), iv (0 : Int32), iv (1 : Int32)] [(.int (16384 : Int32)), (.ref rr), (.int (0 : Int32)), (.ref t1)] _
    refine XS.iloadN X28.here hx rfl (hb hby d9_50) rfl ?_
    show own_At p e below T28 m 51 #[rv ap, iv (16383 : Int32), iv (16385 : Int32), rv rr, iv (16384 : Int32), iv (0 : Int32), iv (1 : Int32)] [(.int (16383 : Int32)), (.int (16384 : Int32)), (.ref rr), (.int (0 : Int32)), (.ref t1)] _
    refine XS.isub X28.here hx rfl (hb hby d9_51) rfl ?_
    show own_At p e below T28 m 52 #[rv ap, iv (16383 : Int32), iv (16385 : Int32), rv rr, iv (16384 : Int32), iv (0 : Int32), iv (1 : Int32)] [(.int ((16384 : Int32) - (16383 : Int32))), (.ref rr), (.int (0 : Int32)), (.ref t1)] _
    rw [show ((16384 : Int32) - (16383 : Int32)) = (1 : Int32) from (by decide +kernel)]
    show own_At p e below T28 m 52 #[rv ap, iv (16383 : Int32), iv (16385 : Int32), rv rr, iv (16384 : Int32), iv (0 : Int32), iv (1 : Int32)] [(.int (1 : Int32)), (.ref rr), (.int (0 : Int32)), (.ref t1)] _
    refine XS.iload X28.here hx rfl (hb hby d9_52) rfl ?_
    show own_At p e below T28 m 54 #[rv ap, iv (16383 : Int32), iv (16385 : Int32), rv rr, iv (16384 : Int32), iv (0 : Int32), iv (1 : Int32)] [(.int (1 : Int32)), (.int (1 : Int32)), (.ref rr), (.int (0 : Int32)), (.ref t1)] _
    exact kt)
  obtain ⟨T34, h34, L34, X34, e34, N34, K34, B34, ls34⟩ := own_cp X28 hx hZ hown (hw _ (List.mem_of_getElem? (i := 62) rfl)) (hw _ (List.mem_of_getElem? (i := 43) rfl)) (hw _ (List.mem_of_getElem? (i := 41) rfl)) (hw _ (List.mem_of_getElem? (i := 42) rfl)) eq28 (ty := .int) rfl f21 B18 (fun _ _ => rfl) (fun q hq => by (repeat' split) <;> rfl) (i := 0) (j := 1) (k := 1) (by decide) (by decide) (by decide) (by decide) (by decide) (by decide) (by decide) (by decide) N28 g_rr (g := (mkF m 54 #[rv ap, iv (16383 : Int32), iv (16385 : Int32), rv rr, iv (16384 : Int32), iv (0 : Int32), iv (1 : Int32)] [(.int (1 : Int32)), (.int (1 : Int32)), (.ref rr), (.int (0 : Int32)), (.ref t1)])) rfl (by rw [hml]; rfl) rfl (hb hby d9_54) (by decide) (W := 0) (by show 2 * 0 + _ ≤ _; exact Nat.le_of_eq rfl) (by decide)
  have f35 := f19.keep K34 (ninS ne_ap_rr nin0)
  have f36 := f20.keep K34 (ninS ne_t0_rr nin0)
  have f37 := f21.keep K34 (ninS ne_t1_rr nin0)
  have z39 := Nat.le_trans z23 K34.1
  have k40 := Keep.trans k24 K34 (allS (P := fun x => x ∈ [] ∨ h0.size ≤ x) (Or.inr sz_rr) all0)
  have f41 : own_Av Z h34 rr .int 2 (fun q => .int (gg (16383 + q))) := B34.congr (fun q hq => match q, hq with | 0, _ => rfl | 1, _ => rfl | _ + 2, z => absurd z (by omega))
  have st42 : own_Go p e below (T34.setTop (mkF m 57 #[rv ap, iv (16383 : Int32), iv (16385 : Int32), rv rr, iv (16384 : Int32), iv (0 : Int32), iv (1 : Int32)] [])) B0 := fun t kt => st33 t (ls34 t kt)
  have hc43 : ¬ ((16385 : Int32) < (16385 : Int32)) := by decide
  have st44 : own_Go p e below (T34.setTop (mkF m 68 #[rv ap, iv (16383 : Int32), iv (16385 : Int32), rv rr, iv (16385 : Int32), iv (0 : Int32), iv (1 : Int32)] [(.ref rr)])) B0 := fun t kt => st42 t (by
    show own_At p e below T34 m 57 #[rv ap, iv (16383 : Int32), iv (16385 : Int32), rv rr, iv (16384 : Int32), iv (0 : Int32), iv (1 : Int32)] [] _
    refine XS.iload X34.here hx rfl (hb hby d9_57) rfl ?_
    show own_At p e below T34 m 59 #[rv ap, iv (16383 : Int32), iv (16385 : Int32), rv rr, iv (16384 : Int32), iv (0 : Int32), iv (1 : Int32)] [(.int (16384 : Int32))] _
    refine XS.iload X34.here hx rfl (hb hby d9_59) rfl ?_
    show own_At p e below T34 m 61 #[rv ap, iv (16383 : Int32), iv (16385 : Int32), rv rr, iv (16384 : Int32), iv (0 : Int32), iv (1 : Int32)] [(.int (1 : Int32)), (.int (16384 : Int32))] _
    refine XS.iadd X34.here hx rfl (hb hby d9_61) rfl ?_
    show own_At p e below T34 m 62 #[rv ap, iv (16383 : Int32), iv (16385 : Int32), rv rr, iv (16384 : Int32), iv (0 : Int32), iv (1 : Int32)] [(.int ((16384 : Int32) + (1 : Int32)))] _
    rw [show ((16384 : Int32) + (1 : Int32)) = (16385 : Int32) from (by decide +kernel)]
    show own_At p e below T34 m 62 #[rv ap, iv (16383 : Int32), iv (16385 : Int32), rv rr, iv (16384 : Int32), iv (0 : Int32), iv (1 : Int32)] [(.int (16385 : Int32))] _
    refine XS.istore X34.here hx rfl (hb hby d9_62) rfl (l' := #[rv ap, iv (16383 : Int32), iv (16385 : Int32), rv rr, iv (16385 : Int32), iv (0 : Int32), iv (1 : Int32)]) rfl ?_
    show own_At p e below T34 m 64 #[rv ap, iv (16383 : Int32), iv (16385 : Int32), rv rr, iv (16385 : Int32), iv (0 : Int32), iv (1 : Int32)] [] _
    refine XS.goto X34.here hx rfl (pc0 := 64) (pc' := 9) rfl (hb hby d9_64) (by decide) (by decide) ?_
    show own_At p e below T34 m 9 #[rv ap, iv (16383 : Int32), iv (16385 : Int32), rv rr, iv (16385 : Int32), iv (0 : Int32), iv (1 : Int32)] [] _
    refine XS.iload X34.here hx rfl (hb hby d9_9) rfl ?_
    show own_At p e below T34 m 11 #[rv ap, iv (16383 : Int32), iv (16385 : Int32), rv rr, iv (16385 : Int32), iv (0 : Int32), iv (1 : Int32)] [(.int (16385 : Int32))] _
    refine XS.iloadN X34.here hx rfl (hb hby d9_11) rfl ?_
    show own_At p e below T34 m 12 #[rv ap, iv (16383 : Int32), iv (16385 : Int32), rv rr, iv (16385 : Int32), iv (0 : Int32), iv (1 : Int32)] [(.int (16385 : Int32)), (.int (16385 : Int32))] _
    refine XS.icmpYes X34.here hx rfl (pc0 := 12) (pc' := 67) rfl (hb hby d9_12) rfl (flt hc43).2.1 (by decide) (by decide) ?_
    show own_At p e below T34 m 67 #[rv ap, iv (16383 : Int32), iv (16385 : Int32), rv rr, iv (16385 : Int32), iv (0 : Int32), iv (1 : Int32)] [] _
    refine XS.aloadN X34.here hx rfl (hb hby d9_67) rfl rfl ?_
    show own_At p e below T34 m 68 #[rv ap, iv (16383 : Int32), iv (16385 : Int32), rv rr, iv (16385 : Int32), iv (0 : Int32), iv (1 : Int32)] [(.ref rr)] _
    exact kt)
  obtain ⟨fs, hr, hrun, hended, hW, hsame⟩ := X34.leave (v := (some (.ref rr))) (fun h => by rw [Bd.returns] at h; cases h)
  subst hB0
  refine ⟨_, _, st44 _ ?_, hrun, hended, _, _, rfl, ?_, ⟨_, rfl⟩, hW, hsame.mono (by decide) (by decide)⟩
  · exact retOut X34 hx Bd.returns rfl (Or.inr (Or.inr (Or.inr (Or.inr ⟨rfl, rfl, rfl⟩)))) (hb hby d9_68) hr
  · show Q_rm_cp_16383_16385 Z ap t0 t1 gg h0 n0 _ T34.heap _
    rw [e34]
    exact ⟨rr, rfl, N34, k40, g_rr, sz_rr, f41⟩
def Q_rm_cp_16385_16386 (Z : State) (ap : Addr) (t0 : Addr) (t1 : Addr) (gg : Nat → Int32) (h0 : Heap) (n0 : Nat) (v : Option Value) (h : Heap) (L : List Loc) : Prop := ∃ b, v = some (.ref b) ∧ Fr n0 L ∧ Keep h0 h [] ∧ n0 ≤ b ∧ h0.size ≤ b ∧ own_Av Z h b .int 1 (fun q => .int (gg (16385 + q)))
set_option maxRecDepth 65536 in
set_option maxHeartbeats 40000000 in
theorem rm_cp_16385_16386 (l : Launch) (Z : State) (a0 : Array Value) (hw : ∀ d ∈ tables_1, d.before a0 Z = true) (ws : List Jvm.Cond) (ap : Addr) (t0 : Addr) (t1 : Addr) (gg : Nat → Int32) (h0 : Heap) (n0 : Nat) (Z0 : n0 ≤ h0.size) (Ap : own_Av Z h0 ap (.array .int) 2 (fun q => .ref (if q = 0 then t0 else t1))) (At0 : own_Av Z h0 t0 .int 16384 (fun q => .int (gg q))) (At1 : own_Av Z h0 t1 .int 2 (fun q => .int (gg (16384 + q)))) :
    MetFree l (⟨"com/example/ranked_text_search/rankedtextsearch/MemoryTermVectors", "copy", "([[III)[I"⟩ : MethodName) (head1 (Jvm.Cond.code (⟨"com/example/ranked_text_search/rankedtextsearch/MemoryTermVectors", "copy", "([[III)[I"⟩ : MethodName) prog_50_method_6_code 7 (some (.array .int)) :: ws) ({ frames := 1, cells := 1, slots := 1, locals := 18 } : Room)) (fun a U => a = #[(.ref ap), (.int (16385 : Int32)), (.int (16386 : Int32))] ∧ Z.Warmed39 U.vm ∧ U.heap = h0) (fun _ _ _ _ _ => True) (fun _ U o U' => ∃ v L, o = .returned v ∧ Q_rm_cp_16385_16386 Z ap t0 t1 gg h0 n0 v U'.heap L ∧ FrameEnd U o U' L ({ frames := 1, cells := 1, slots := 1, locals := 18 } : Room).cells ({ frames := 1, cells := 1, slots := 1, locals := 18 } : Room).slots) := by
  refine MetFree.of_bodySF (plainFor_of_name own_pn2) hisR ?_
  intro p e s m args below meth c s₁ Bd hml0 hP hK
  obtain ⟨rfl, hZ, hh⟩ := hP
  have hx := Bd.exec
  have hby := Bd.bytes
  have hml : c.maxLocals = 7 := hml0
  have hown : s.vm.findClass "com/example/ranked_text_search/rankedtextsearch/MemoryTermVectors" = some m.cls := findClass_of_methodNamed Bd.named
  have hnm := (name_of_methodNamed Bd.named Bd.method).1
  have X0 : Stand p l e ({ frames := 1, cells := 1, slots := 1, locals := 18 } : Room) s m #[(.ref ap), (.int (16385 : Int32)), (.int (16386 : Int32))] below meth c s₁ [] 0 0 := Stand.of_body Bd
  have e0 : s₁.heap = h0 := by rw [← hh, Bd.state]; rfl
  have N0 := Fr.nil n0
  obtain ⟨B0, hB0⟩ : ∃ B, B = (s₁.setTop (entryFrame m #[(.ref ap), (.int (16385 : Int32)), (.int (16386 : Int32))] 7)) := ⟨_, rfl⟩
  have st0 : own_Go p e below (s₁.setTop (mkF m 0 #[rv ap, iv (16385 : Int32), iv (16386 : Int32), .unset, .unset, .unset, .unset] [])) B0 := fun t k => hB0 ▸ castTop (own_ef9_RII m ap (16385 : Int32) (16386 : Int32)) k
  have k0 : Keep h0 h0 [] := Keep.refl _ _
  have st1 : own_Go p e below (s₁.setTop (mkF m 3 #[rv ap, iv (16385 : Int32), iv (16386 : Int32), .unset, .unset, .unset, .unset] [(.int (1 : Int32))])) B0 := fun t kt => st0 t (by
    show own_At p e below s₁ m 0 #[rv ap, iv (16385 : Int32), iv (16386 : Int32), .unset, .unset, .unset, .unset] [] _
    refine XS.iloadN X0.here hx rfl (hb hby d9_0) rfl ?_
    show own_At p e below s₁ m 1 #[rv ap, iv (16385 : Int32), iv (16386 : Int32), .unset, .unset, .unset, .unset] [(.int (16386 : Int32))] _
    refine XS.iloadN X0.here hx rfl (hb hby d9_1) rfl ?_
    show own_At p e below s₁ m 2 #[rv ap, iv (16385 : Int32), iv (16386 : Int32), .unset, .unset, .unset, .unset] [(.int (16385 : Int32)), (.int (16386 : Int32))] _
    refine XS.isub X0.here hx rfl (hb hby d9_2) rfl ?_
    show own_At p e below s₁ m 3 #[rv ap, iv (16385 : Int32), iv (16386 : Int32), .unset, .unset, .unset, .unset] [(.int ((16386 : Int32) - (16385 : Int32)))] _
    rw [show ((16386 : Int32) - (16385 : Int32)) = (1 : Int32) from (by decide +kernel)]
    show own_At p e below s₁ m 3 #[rv ap, iv (16385 : Int32), iv (16386 : Int32), .unset, .unset, .unset, .unset] [(.int (1 : Int32))] _
    exact kt)
  obtain ⟨T2, h2, c2, X2, e2, E2, A2, ls2⟩ := newP X0 hx hZ (hw _ (List.mem_of_getElem? (i := 7) rfl)) e0 (g := (mkF m 3 #[rv ap, iv (16385 : Int32), iv (16386 : Int32), .unset, .unset, .unset, .unset] [(.int (1 : Int32))])) rfl (hb hby d9_3) rfl (by decide) (cap := 1) (by decide) (by decide) (by decide) (by decide)
  obtain ⟨rr, g2⟩ : ∃ z, z = h0.size := ⟨_, rfl⟩
  rw [← g2] at A2 ls2
  have ne_ap_rr : ap ≠ rr := Nat.ne_of_lt (Nat.lt_of_lt_of_le Ap.lt (Nat.le_of_eq g2.symm))
  have ne_t0_rr : t0 ≠ rr := Nat.ne_of_lt (Nat.lt_of_lt_of_le At0.lt (Nat.le_of_eq g2.symm))
  have ne_t1_rr : t1 ≠ rr := Nat.ne_of_lt (Nat.lt_of_lt_of_le At1.lt (Nat.le_of_eq g2.symm))
  have g_rr : n0 ≤ rr := Nat.le_trans Z0 (Nat.le_of_eq g2.symm)
  have sz_rr : h0.size ≤ rr := Nat.le_trans k0.1 (Nat.le_of_eq g2.symm)
  have f3 := Ap.ext E2
  have f4 := At0.ext E2
  have f5 := At1.ext E2
  have z6 := Nat.le_trans Z0 E2.1
  have k7 := k0.ext E2
  have f8 : own_Av Z h2 rr .int 1 (fun _ => (.int (0 : Int32))) := own_Av.new A2 (by decide) (by decide)
  have st9 : own_Go p e below (T2.setTop (mkF m 5 #[rv ap, iv (16385 : Int32), iv (16386 : Int32), .unset, .unset, .unset, .unset] [(.ref rr)])) B0 := fun t kt => st1 t (ls2 t kt)
  have hc10 : (16385 : Int32) < (16386 : Int32) := by decide
  have st11 : own_Go p e below (T2.setTop (mkF m 33 #[rv ap, iv (16385 : Int32), iv (16386 : Int32), rv rr, iv (16385 : Int32), iv (1 : Int32), .unset] [(.int (16383 : Int32)), (.int (1 : Int32))])) B0 := fun t kt => st9 t (by
    show own_At p e below T2 m 5 #[rv ap, iv (16385 : Int32), iv (16386 : Int32), .unset, .unset, .unset, .unset] [(.ref rr)] _
    refine XS.astoreN X2.here hx rfl (hb hby d9_5) rfl rfl (l' := #[rv ap, iv (16385 : Int32), iv (16386 : Int32), rv rr, .unset, .unset, .unset]) rfl ?_
    show own_At p e below T2 m 6 #[rv ap, iv (16385 : Int32), iv (16386 : Int32), rv rr, .unset, .unset, .unset] [] _
    refine XS.iloadN X2.here hx rfl (hb hby d9_6) rfl ?_
    show own_At p e below T2 m 7 #[rv ap, iv (16385 : Int32), iv (16386 : Int32), rv rr, .unset, .unset, .unset] [(.int (16385 : Int32))] _
    refine XS.istore X2.here hx rfl (hb hby d9_7) rfl (l' := #[rv ap, iv (16385 : Int32), iv (16386 : Int32), rv rr, iv (16385 : Int32), .unset, .unset]) rfl ?_
    show own_At p e below T2 m 9 #[rv ap, iv (16385 : Int32), iv (16386 : Int32), rv rr, iv (16385 : Int32), .unset, .unset] [] _
    refine XS.iload X2.here hx rfl (hb hby d9_9) rfl ?_
    show own_At p e below T2 m 11 #[rv ap, iv (16385 : Int32), iv (16386 : Int32), rv rr, iv (16385 : Int32), .unset, .unset] [(.int (16385 : Int32))] _
    refine XS.iloadN X2.here hx rfl (hb hby d9_11) rfl ?_
    show own_At p e below T2 m 12 #[rv ap, iv (16385 : Int32), iv (16386 : Int32), rv rr, iv (16385 : Int32), .unset, .unset] [(.int (16386 : Int32)), (.int (16385 : Int32))] _
    refine XS.icmpNo X2.here hx rfl (hb hby d9_12) rfl (tlt hc10).2.1 ?_
    show own_At p e below T2 m 15 #[rv ap, iv (16385 : Int32), iv (16386 : Int32), rv rr, iv (16385 : Int32), .unset, .unset] [] _
    refine XS.iload X2.here hx rfl (hb hby d9_15) rfl ?_
    show own_At p e below T2 m 17 #[rv ap, iv (16385 : Int32), iv (16386 : Int32), rv rr, iv (16385 : Int32), .unset, .unset] [(.int (16385 : Int32))] _
    refine XS.sipush X2.here hx rfl (hb hby d9_17) ?_
    show own_At p e below T2 m 20 #[rv ap, iv (16385 : Int32), iv (16386 : Int32), rv rr, iv (16385 : Int32), .unset, .unset] [(.int (16383 : Int32)), (.int (16385 : Int32))] _
    refine XS.iand X2.here hx rfl (hb hby d9_20) rfl ?_
    show own_At p e below T2 m 21 #[rv ap, iv (16385 : Int32), iv (16386 : Int32), rv rr, iv (16385 : Int32), .unset, .unset] [(.int ((16385 : Int32) &&& (16383 : Int32)))] _
    rw [show ((16385 : Int32) &&& (16383 : Int32)) = (1 : Int32) from (by decide +kernel)]
    show own_At p e below T2 m 21 #[rv ap, iv (16385 : Int32), iv (16386 : Int32), rv rr, iv (16385 : Int32), .unset, .unset] [(.int (1 : Int32))] _
    refine XS.istore X2.here hx rfl (hb hby d9_21) rfl (l' := #[rv ap, iv (16385 : Int32), iv (16386 : Int32), rv rr, iv (16385 : Int32), iv (1 : Int32), .unset]) rfl ?_
    show own_At p e below T2 m 23 #[rv ap, iv (16385 : Int32), iv (16386 : Int32), rv rr, iv (16385 : Int32), iv (1 : Int32), .unset] [] _
    refine XS.iloadN X2.here hx rfl (hb hby d9_23) rfl ?_
    show own_At p e below T2 m 24 #[rv ap, iv (16385 : Int32), iv (16386 : Int32), rv rr, iv (16385 : Int32), iv (1 : Int32), .unset] [(.int (16386 : Int32))] _
    refine XS.iload X2.here hx rfl (hb hby d9_24) rfl ?_
    show own_At p e below T2 m 26 #[rv ap, iv (16385 : Int32), iv (16386 : Int32), rv rr, iv (16385 : Int32), iv (1 : Int32), .unset] [(.int (16385 : Int32)), (.int (16386 : Int32))] _
    refine XS.isub X2.here hx rfl (hb hby d9_26) rfl ?_
    show own_At p e below T2 m 27 #[rv ap, iv (16385 : Int32), iv (16386 : Int32), rv rr, iv (16385 : Int32), iv (1 : Int32), .unset] [(.int ((16386 : Int32) - (16385 : Int32)))] _
    rw [show ((16386 : Int32) - (16385 : Int32)) = (1 : Int32) from (by decide +kernel)]
    show own_At p e below T2 m 27 #[rv ap, iv (16385 : Int32), iv (16386 : Int32), rv rr, iv (16385 : Int32), iv (1 : Int32), .unset] [(.int (1 : Int32))] _
    refine XS.sipush X2.here hx rfl (hb hby d9_27) ?_
    show own_At p e below T2 m 30 #[rv ap, iv (16385 : Int32), iv (16386 : Int32), rv rr, iv (16385 : Int32), iv (1 : Int32), .unset] [(.int (16384 : Int32)), (.int (1 : Int32))] _
    refine XS.iload X2.here hx rfl (hb hby d9_30) rfl ?_
    show own_At p e below T2 m 32 #[rv ap, iv (16385 : Int32), iv (16386 : Int32), rv rr, iv (16385 : Int32), iv (1 : Int32), .unset] [(.int (1 : Int32)), (.int (16384 : Int32)), (.int (1 : Int32))] _
    refine XS.isub X2.here hx rfl (hb hby d9_32) rfl ?_
    show own_At p e below T2 m 33 #[rv ap, iv (16385 : Int32), iv (16386 : Int32), rv rr, iv (16385 : Int32), iv (1 : Int32), .unset] [(.int ((16384 : Int32) - (1 : Int32))), (.int (1 : Int32))] _
    rw [show ((16384 : Int32) - (1 : Int32)) = (16383 : Int32) from (by decide +kernel)]
    show own_At p e below T2 m 33 #[rv ap, iv (16385 : Int32), iv (16386 : Int32), rv rr, iv (16385 : Int32), iv (1 : Int32), .unset] [(.int (16383 : Int32)), (.int (1 : Int32))] _
    exact kt)
  obtain ⟨_, _, ⟨T12, L12, k12, n12⟩, -, X12, ⟨Lc12, hQ12, l12, y12, z12⟩, ls12⟩ := Jvm.LawKit.callS X2 hx (y := (⟨"java/lang/Math", "min", "(II)I"⟩ : MethodName)) hown (mvT hZ (hw _ (List.mem_of_getElem? (i := 29) rfl))) (mvT hZ (hw _ (List.mem_of_getElem? (i := 1) rfl))) (mvT hZ (hw _ (List.mem_of_getElem? (i := 2) rfl))) (mvT hZ (hw _ (List.mem_of_getElem? (i := 3) rfl))) (by decide) (backOf (W := 0) (rm_min l Z a0 hw [] ((1 : Int32)) ((16383 : Int32)) h2 n0 z6) hZ (hw _ (List.mem_of_getElem? (i := 3) rfl)) (hw _ (List.mem_of_getElem? (i := 2) rfl)) (by decide) (by decide)) (g := (mkF m 33 #[rv ap, iv (16385 : Int32), iv (16386 : Int32), rv rr, iv (16385 : Int32), iv (1 : Int32), .unset] [(.int (16383 : Int32)), (.int (1 : Int32))])) rfl (by rw [hml]; rfl) (argsL := [(.int (1 : Int32)), (.int (16383 : Int32))]) (rest := []) (lenOf own_pd0 rfl) rfl (by show 2 * 0 + _ ≤ _; exact Nat.le_of_eq rfl) (hb hby d9_33) (fun _ _ => ⟨rfl, e2, (by decide : 1 + 0 ≤ _), (by decide : 1 + 0 ≤ _)⟩)
  dsimp only [Pt.U, Pt.locs, Pt.cells, Pt.slots] at X12 l12 y12 z12 ls12 hQ12
  subst l12 y12 z12
  obtain ⟨rfl, Nq12, eq12⟩ := hQ12
  have N12 := Fr.app N0 Nq12
  have st13 : own_Go p e below (T12.setTop (mkF m 36 #[rv ap, iv (16385 : Int32), iv (16386 : Int32), rv rr, iv (16385 : Int32), iv (1 : Int32), .unset] [(.int (own_mn (1 : Int32) (16383 : Int32)))])) B0 := fun t kt => st11 t (ls12 t kt)
  have st14 : own_Go p e below (T12.setTop (mkF m 44 #[rv ap, iv (16385 : Int32), iv (16386 : Int32), rv rr, iv (16385 : Int32), iv (1 : Int32), iv (1 : Int32)] [(.int (1 : Int32)), (.ref ap)])) B0 := fun t kt => st13 t (by
    show own_At p e below T12 m 36 #[rv ap, iv (16385 : Int32), iv (16386 : Int32), rv rr, iv (16385 : Int32), iv (1 : Int32), .unset] [(.int (own_mn (1 : Int32) (16383 : Int32)))] _
    rw [show (own_mn (1 : Int32) (16383 : Int32)) = (1 : Int32) from (by decide +kernel)]
    show own_At p e below T12 m 36 #[rv ap, iv (16385 : Int32), iv (16386 : Int32), rv rr, iv (16385 : Int32), iv (1 : Int32), .unset] [(.int (1 : Int32))] _
    refine XS.istore X12.here hx rfl (hb hby d9_36) rfl (l' := #[rv ap, iv (16385 : Int32), iv (16386 : Int32), rv rr, iv (16385 : Int32), iv (1 : Int32), iv (1 : Int32)]) rfl ?_
    show own_At p e below T12 m 38 #[rv ap, iv (16385 : Int32), iv (16386 : Int32), rv rr, iv (16385 : Int32), iv (1 : Int32), iv (1 : Int32)] [] _
    refine XS.aloadN X12.here hx rfl (hb hby d9_38) rfl rfl ?_
    show own_At p e below T12 m 39 #[rv ap, iv (16385 : Int32), iv (16386 : Int32), rv rr, iv (16385 : Int32), iv (1 : Int32), iv (1 : Int32)] [(.ref ap)] _
    refine XS.iload X12.here hx rfl (hb hby d9_39) rfl ?_
    show own_At p e below T12 m 41 #[rv ap, iv (16385 : Int32), iv (16386 : Int32), rv rr, iv (16385 : Int32), iv (1 : Int32), iv (1 : Int32)] [(.int (16385 : Int32)), (.ref ap)] _
    refine XS.bipush X12.here hx rfl (hb hby d9_41) ?_
    show own_At p e below T12 m 43 #[rv ap, iv (16385 : Int32), iv (16386 : Int32), rv rr, iv (16385 : Int32), iv (1 : Int32), iv (1 : Int32)] [(.int (14 : Int32)), (.int (16385 : Int32)), (.ref ap)] _
    refine XS.iushr X12.here hx rfl (hb hby d9_43) rfl ?_
    show own_At p e below T12 m 44 #[rv ap, iv (16385 : Int32), iv (16386 : Int32), rv rr, iv (16385 : Int32), iv (1 : Int32), iv (1 : Int32)] [(.int (((16385 : Int32).toUInt32 >>> ((14 : Int32) &&& 31).toUInt32).toInt32)), (.ref ap)] _
    rw [show (((16385 : Int32).toUInt32 >>> ((14 : Int32) &&& 31).toUInt32).toInt32) = (1 : Int32) from (by decide +kernel)]
    show own_At p e below T12 m 44 #[rv ap, iv (16385 : Int32), iv (16386 : Int32), rv rr, iv (16385 : Int32), iv (1 : Int32), iv (1 : Int32)] [(.int (1 : Int32)), (.ref ap)] _
    exact kt)
  have ls15 := own_aaload (ty := (.array .int)) rfl X12 hx hZ eq12 f3 (j := (1 : Int32)) (i := 1) (by decide) (by decide) (by decide) (v := (.ref t1)) (rfl) (g := (mkF m 44 #[rv ap, iv (16385 : Int32), iv (16386 : Int32), rv rr, iv (16385 : Int32), iv (1 : Int32), iv (1 : Int32)] [(.int (1 : Int32)), (.ref ap)])) rfl rfl (hb hby d9_44)
  have st16 : own_Go p e below (T12.setTop (mkF m 45 #[rv ap, iv (16385 : Int32), iv (16386 : Int32), rv rr, iv (16385 : Int32), iv (1 : Int32), iv (1 : Int32)] [(.ref t1)])) B0 := fun t kt => st14 t (ls15 t kt)
  have st17 : own_Go p e below (T12.setTop (mkF m 54 #[rv ap, iv (16385 : Int32), iv (16386 : Int32), rv rr, iv (16385 : Int32), iv (1 : Int32), iv (1 : Int32)] [(.int (1 : Int32)), (.int (0 : Int32)), (.ref rr), (.int (1 : Int32)), (.ref t1)])) B0 := fun t kt => st16 t (by
    show own_At p e below T12 m 45 #[rv ap, iv (16385 : Int32), iv (16386 : Int32), rv rr, iv (16385 : Int32), iv (1 : Int32), iv (1 : Int32)] [(.ref t1)] _
    refine XS.iload X12.here hx rfl (hb hby d9_45) rfl ?_
    show own_At p e below T12 m 47 #[rv ap, iv (16385 : Int32), iv (16386 : Int32), rv rr, iv (16385 : Int32), iv (1 : Int32), iv (1 : Int32)] [(.int (1 : Int32)), (.ref t1)] _
    refine XS.aloadN X12.here hx rfl (hb hby d9_47) rfl rfl ?_
    show own_At p e below T12 m 48 #[rv ap, iv (16385 : Int32), iv (16386 : Int32), rv rr, iv (16385 : Int32), iv (1 : Int32), iv (1 : Int32)] [(.ref rr), (.int (1 : Int32)), (.ref t1)] _
    refine XS.iload X12.here hx rfl (hb hby d9_48) rfl ?_
    show own_At p e below T12 m 50 #[rv ap, iv (16385 : Int32), iv (16386 : Int32), rv rr, iv (16385 : Int32), iv (1 : Int32), iv (1 : Int32)] [(.int (16385 : Int32)), (.ref rr), (.int (1 : Int32)), (.ref t1)] _
    refine XS.iloadN X12.here hx rfl (hb hby d9_50) rfl ?_
    show own_At p e below T12 m 51 #[rv ap, iv (16385 : Int32), iv (16386 : Int32), rv rr, iv (16385 : Int32), iv (1 : Int32), iv (1 : Int32)] [(.int (16385 : Int32)), (.int (16385 : Int32)), (.ref rr), (.int (1 : Int32)), (.ref t1)] _
    refine XS.isub X12.here hx rfl (hb hby d9_51) rfl ?_
    show own_At p e below T12 m 52 #[rv ap, iv (16385 : Int32), iv (16386 : Int32), rv rr, iv (16385 : Int32), iv (1 : Int32), iv (1 : Int32)] [(.int ((16385 : Int32) - (16385 : Int32))), (.ref rr), (.int (1 : Int32)), (.ref t1)] _
    rw [show ((16385 : Int32) - (16385 : Int32)) = (0 : Int32) from (by decide +kernel)]
    show own_At p e below T12 m 52 #[rv ap, iv (16385 : Int32), iv (16386 : Int32), rv rr, iv (16385 : Int32), iv (1 : Int32), iv (1 : Int32)] [(.int (0 : Int32)), (.ref rr), (.int (1 : Int32)), (.ref t1)] _
    refine XS.iload X12.here hx rfl (hb hby d9_52) rfl ?_
    show own_At p e below T12 m 54 #[rv ap, iv (16385 : Int32), iv (16386 : Int32), rv rr, iv (16385 : Int32), iv (1 : Int32), iv (1 : Int32)] [(.int (1 : Int32)), (.int (0 : Int32)), (.ref rr), (.int (1 : Int32)), (.ref t1)] _
    exact kt)
  obtain ⟨T18, h18, L18, X18, e18, N18, K18, B18, ls18⟩ := own_cp X12 hx hZ hown (hw _ (List.mem_of_getElem? (i := 62) rfl)) (hw _ (List.mem_of_getElem? (i := 43) rfl)) (hw _ (List.mem_of_getElem? (i := 41) rfl)) (hw _ (List.mem_of_getElem? (i := 42) rfl)) eq12 (ty := .int) rfl f5 f8 (fun _ _ => rfl) (fun _ _ => rfl) (i := 1) (j := 0) (k := 1) (by decide) (by decide) (by decide) (by decide) (by decide) (by decide) (by decide) (by decide) N12 g_rr (g := (mkF m 54 #[rv ap, iv (16385 : Int32), iv (16386 : Int32), rv rr, iv (16385 : Int32), iv (1 : Int32), iv (1 : Int32)] [(.int (1 : Int32)), (.int (0 : Int32)), (.ref rr), (.int (1 : Int32)), (.ref t1)])) rfl (by rw [hml]; rfl) rfl (hb hby d9_54) (by decide) (W := 0) (by show 2 * 0 + _ ≤ _; exact Nat.le_of_eq rfl) (by decide)
  have f19 := f3.keep K18 (ninS ne_ap_rr nin0)
  have f20 := f4.keep K18 (ninS ne_t0_rr nin0)
  have f21 := f5.keep K18 (ninS ne_t1_rr nin0)
  have z23 := Nat.le_trans z6 K18.1
  have k24 := Keep.trans k7 K18 (allS (P := fun x => x ∈ [] ∨ h0.size ≤ x) (Or.inr sz_rr) all0)
  have f25 : own_Av Z h18 rr .int 1 (fun q => .int (gg (16385 + q))) := B18.congr (fun q hq => match q, hq with | 0, _ => rfl | _ + 1, z => absurd z (by omega))
  have st26 : own_Go p e below (T18.setTop (mkF m 57 #[rv ap, iv (16385 : Int32), iv (16386 : Int32), rv rr, iv (16385 : Int32), iv (1 : Int32), iv (1 : Int32)] [])) B0 := fun t kt => st17 t (ls18 t kt)
  have hc27 : ¬ ((16386 : Int32) < (16386 : Int32)) := by decide
  have st28 : own_Go p e below (T18.setTop (mkF m 68 #[rv ap, iv (16385 : Int32), iv (16386 : Int32), rv rr, iv (16386 : Int32), iv (1 : Int32), iv (1 : Int32)] [(.ref rr)])) B0 := fun t kt => st26 t (by
    show own_At p e below T18 m 57 #[rv ap, iv (16385 : Int32), iv (16386 : Int32), rv rr, iv (16385 : Int32), iv (1 : Int32), iv (1 : Int32)] [] _
    refine XS.iload X18.here hx rfl (hb hby d9_57) rfl ?_
    show own_At p e below T18 m 59 #[rv ap, iv (16385 : Int32), iv (16386 : Int32), rv rr, iv (16385 : Int32), iv (1 : Int32), iv (1 : Int32)] [(.int (16385 : Int32))] _
    refine XS.iload X18.here hx rfl (hb hby d9_59) rfl ?_
    show own_At p e below T18 m 61 #[rv ap, iv (16385 : Int32), iv (16386 : Int32), rv rr, iv (16385 : Int32), iv (1 : Int32), iv (1 : Int32)] [(.int (1 : Int32)), (.int (16385 : Int32))] _
    refine XS.iadd X18.here hx rfl (hb hby d9_61) rfl ?_
    show own_At p e below T18 m 62 #[rv ap, iv (16385 : Int32), iv (16386 : Int32), rv rr, iv (16385 : Int32), iv (1 : Int32), iv (1 : Int32)] [(.int ((16385 : Int32) + (1 : Int32)))] _
    rw [show ((16385 : Int32) + (1 : Int32)) = (16386 : Int32) from (by decide +kernel)]
    show own_At p e below T18 m 62 #[rv ap, iv (16385 : Int32), iv (16386 : Int32), rv rr, iv (16385 : Int32), iv (1 : Int32), iv (1 : Int32)] [(.int (16386 : Int32))] _
    refine XS.istore X18.here hx rfl (hb hby d9_62) rfl (l' := #[rv ap, iv (16385 : Int32), iv (16386 : Int32), rv rr, iv (16386 : Int32), iv (1 : Int32), iv (1 : Int32)]) rfl ?_
    show own_At p e below T18 m 64 #[rv ap, iv (16385 : Int32), iv (16386 : Int32), rv rr, iv (16386 : Int32), iv (1 : Int32), iv (1 : Int32)] [] _
    refine XS.goto X18.here hx rfl (pc0 := 64) (pc' := 9) rfl (hb hby d9_64) (by decide) (by decide) ?_
    show own_At p e below T18 m 9 #[rv ap, iv (16385 : Int32), iv (16386 : Int32), rv rr, iv (16386 : Int32), iv (1 : Int32), iv (1 : Int32)] [] _
    refine XS.iload X18.here hx rfl (hb hby d9_9) rfl ?_
    show own_At p e below T18 m 11 #[rv ap, iv (16385 : Int32), iv (16386 : Int32), rv rr, iv (16386 : Int32), iv (1 : Int32), iv (1 : Int32)] [(.int (16386 : Int32))] _
    refine XS.iloadN X18.here hx rfl (hb hby d9_11) rfl ?_
    show own_At p e below T18 m 12 #[rv ap, iv (16385 : Int32), iv (16386 : Int32), rv rr, iv (16386 : Int32), iv (1 : Int32), iv (1 : Int32)] [(.int (16386 : Int32)), (.int (16386 : Int32))] _
    refine XS.icmpYes X18.here hx rfl (pc0 := 12) (pc' := 67) rfl (hb hby d9_12) rfl (flt hc27).2.1 (by decide) (by decide) ?_
    show own_At p e below T18 m 67 #[rv ap, iv (16385 : Int32), iv (16386 : Int32), rv rr, iv (16386 : Int32), iv (1 : Int32), iv (1 : Int32)] [] _
    refine XS.aloadN X18.here hx rfl (hb hby d9_67) rfl rfl ?_
    show own_At p e below T18 m 68 #[rv ap, iv (16385 : Int32), iv (16386 : Int32), rv rr, iv (16386 : Int32), iv (1 : Int32), iv (1 : Int32)] [(.ref rr)] _
    exact kt)
  obtain ⟨fs, hr, hrun, hended, hW, hsame⟩ := X18.leave (v := (some (.ref rr))) (fun h => by rw [Bd.returns] at h; cases h)
  subst hB0
  refine ⟨_, _, st28 _ ?_, hrun, hended, _, _, rfl, ?_, ⟨_, rfl⟩, hW, hsame.mono (by decide) (by decide)⟩
  · exact retOut X18 hx Bd.returns rfl (Or.inr (Or.inr (Or.inr (Or.inr ⟨rfl, rfl, rfl⟩)))) (hb hby d9_68) hr
  · show Q_rm_cp_16385_16386 Z ap t0 t1 gg h0 n0 _ T18.heap _
    rw [e18]
    exact ⟨rr, rfl, N18, k24, g_rr, sz_rr, f25⟩
def Q_rm_vi (Z : State) (ao : Addr) (a1 : Addr) (a2 : Addr) (h0 : Heap) (n0 : Nat) (v : Option Value) (h : Heap) (L : List Loc) : Prop := v = none ∧ Fr n0 L ∧ Keep h0 h [ao] ∧ Fld Z h ao "com/example/ranked_text_search/rankedtextsearch/TermVectors$Vector" "termNumbers" "[I" (.ref a1) ∧ Fld Z h ao "com/example/ranked_text_search/rankedtextsearch/TermVectors$Vector" "frequencies" "[I" (.ref a2)
set_option maxRecDepth 65536 in
set_option maxHeartbeats 40000000 in
theorem rm_vi (l : Launch) (Z : State) (a0 : Array Value) (hw : ∀ d ∈ tables_1, d.before a0 Z = true) (ws : List Jvm.Cond) (ao : Addr) (a1 : Addr) (a2 : Addr) (h0 : Heap) (n0 : Nat) (Z0 : n0 ≤ h0.size) (F_termNumbers_ao : Fld Z h0 ao "com/example/ranked_text_search/rankedtextsearch/TermVectors$Vector" "termNumbers" "[I" .null) (F_frequencies_ao : Fld Z h0 ao "com/example/ranked_text_search/rankedtextsearch/TermVectors$Vector" "frequencies" "[I" .null) (E_ao : Exa Z h0 ao "com/example/ranked_text_search/rankedtextsearch/TermVectors$Vector") (g_ao : n0 ≤ ao) :
    MetFree l (⟨"com/example/ranked_text_search/rankedtextsearch/TermVectors$Vector", "<init>", "([I[I)V"⟩ : MethodName) (head1 (Jvm.Cond.code (⟨"com/example/ranked_text_search/rankedtextsearch/TermVectors$Vector", "<init>", "([I[I)V"⟩ : MethodName) prog_100_method_1_code 3 none :: ws) ({ frames := 2, cells := 0, slots := 0, locals := 24 } : Room)) (fun a U => a = #[(.ref ao), (.ref a1), (.ref a2)] ∧ Z.Warmed39 U.vm ∧ U.heap = h0) (fun _ _ _ _ _ => True) (fun _ U o U' => ∃ v L, o = .returned v ∧ Q_rm_vi Z ao a1 a2 h0 n0 v U'.heap L ∧ FrameEnd U o U' L ({ frames := 2, cells := 0, slots := 0, locals := 24 } : Room).cells ({ frames := 2, cells := 0, slots := 0, locals := 24 } : Room).slots) := by
  refine MetFree.of_bodySF (plainFor_of_name own_pn3) hisR ?_
  intro p e s m args below meth c s₁ Bd hml0 hP hK
  obtain ⟨rfl, hZ, hh⟩ := hP
  have hx := Bd.exec
  have hby := Bd.bytes
  have hml : c.maxLocals = 3 := hml0
  have hown : s.vm.findClass "com/example/ranked_text_search/rankedtextsearch/TermVectors$Vector" = some m.cls := findClass_of_methodNamed Bd.named
  have hnm := (name_of_methodNamed Bd.named Bd.method).1
  have X0 : Stand p l e ({ frames := 2, cells := 0, slots := 0, locals := 24 } : Room) s m #[(.ref ao), (.ref a1), (.ref a2)] below meth c s₁ [] 0 0 := Stand.of_body Bd
  have e0 : s₁.heap = h0 := by rw [← hh, Bd.state]; rfl
  have N0 := Fr.nil n0
  obtain ⟨B0, hB0⟩ : ∃ B, B = (s₁.setTop (entryFrame m #[(.ref ao), (.ref a1), (.ref a2)] 3)) := ⟨_, rfl⟩
  have st0 : own_Go p e below (s₁.setTop (mkF m 0 #[rv ao, rv a1, rv a2] [])) B0 := fun t k => hB0 ▸ castTop (own_ef10_RRR m ao a1 a2) k
  have k0 : Keep h0 h0 [ao] := Keep.refl _ _
  have st1 : own_Go p e below (s₁.setTop (mkF m 1 #[rv ao, rv a1, rv a2] [(.ref ao)])) B0 := fun t kt => st0 t (by
    show own_At p e below s₁ m 0 #[rv ao, rv a1, rv a2] [] _
    refine XS.aloadN X0.here hx rfl (hb hby d10_0) rfl rfl ?_
    show own_At p e below s₁ m 1 #[rv ao, rv a1, rv a2] [(.ref ao)] _
    exact kt)
  obtain ⟨_, _, ⟨T2, L2, k2, n2⟩, -, X2, ⟨Lc2, hQ2, l2, y2, z2⟩, ls2⟩ := X0.specialBack hx (y := (⟨"java/lang/Record", "<init>", "()V"⟩ : MethodName)) rfl hown (mvT hZ (hw _ (List.mem_of_getElem? (i := 66) rfl))) (mvT hZ (hw _ (List.mem_of_getElem? (i := 67) rfl))) (mvT hZ (hw _ (List.mem_of_getElem? (i := 70) rfl))) (by decide) (backOf (W := 0) (rm_record l Z a0 hw [] ao h0 n0 Z0) hZ (hw _ (List.mem_of_getElem? (i := 70) rfl)) (hw _ (List.mem_of_getElem? (i := 69) rfl)) (by decide) (by decide)) (g := (mkF m 1 #[rv ao, rv a1, rv a2] [(.ref ao)])) rfl (by rw [hml]; rfl) (Steps.refl _) (a := ao) (argsL := []) (rest := []) (lenOf own_pd3 rfl) rfl (by show 2 * 0 + _ ≤ _; exact Nat.le_of_eq rfl) (hb hby d10_1) (fun _ _ => ⟨rfl, e0, (by decide : 0 + 0 ≤ _), (by decide : 0 + 0 ≤ _)⟩)
  dsimp only [Pt.U, Pt.locs, Pt.cells, Pt.slots] at X2 l2 y2 z2 ls2 hQ2
  subst l2 y2 z2
  obtain ⟨rfl, Nq2, eq2⟩ := hQ2
  have N2 := Fr.app N0 Nq2
  have st3 : own_Go p e below (T2.setTop (mkF m 4 #[rv ao, rv a1, rv a2] [])) B0 := fun t kt => st1 t (ls2.trans kt)
  have st4 : own_Go p e below (T2.setTop (mkF m 6 #[rv ao, rv a1, rv a2] [(.ref a1), (.ref ao)])) B0 := fun t kt => st3 t (by
    show own_At p e below T2 m 4 #[rv ao, rv a1, rv a2] [] _
    refine XS.aloadN X2.here hx rfl (hb hby d10_4) rfl rfl ?_
    show own_At p e below T2 m 5 #[rv ao, rv a1, rv a2] [(.ref ao)] _
    refine XS.aloadN X2.here hx rfl (hb hby d10_5) rfl rfl ?_
    show own_At p e below T2 m 6 #[rv ao, rv a1, rv a2] [(.ref a1), (.ref ao)] _
    exact kt)
  obtain ⟨T5, h5, X5, e5, W5, ls5⟩ := putF X2 hx hZ hown (host := "") (Or.inl (hw _ (List.mem_of_getElem? (i := 72) rfl))) Via.refl eq2 F_termNumbers_ao E_ao (Or.inr ⟨(hw _ (List.mem_of_getElem? (i := 73) rfl)), rfl, hnm⟩) (hw _ (List.mem_of_getElem? (i := 57) rfl)) (ty := (.array .int)) (by decide) rfl rfl (g := (mkF m 6 #[rv ao, rv a1, rv a2] [(.ref a1), (.ref ao)])) rfl rfl (hb hby d10_6)
  have N5 := Fr.snoc X5 N2 g_ao
  have f6 := F_termNumbers_ao.same W5
  have f7 := F_frequencies_ao.other W5 (Or.inr (slot_ne (Or.inr (hw _ (List.mem_of_getElem? (i := 75) rfl))) (Or.inr (hw _ (List.mem_of_getElem? (i := 73) rfl))) (by decide) (t := (.array .int)) (t' := (.array .int)) (by decide) (by decide)))
  have f8 := E_ao.wr W5
  have z9 := Nat.le_trans Z0 (Keep.of_wr W5).1
  have k10 := k0.wr W5 (Or.inl (List.mem_of_getElem? (i := 0) rfl))
  have st11 : own_Go p e below (T5.setTop (mkF m 9 #[rv ao, rv a1, rv a2] [])) B0 := fun t kt => st4 t (ls5 t kt)
  have st12 : own_Go p e below (T5.setTop (mkF m 11 #[rv ao, rv a1, rv a2] [(.ref a2), (.ref ao)])) B0 := fun t kt => st11 t (by
    show own_At p e below T5 m 9 #[rv ao, rv a1, rv a2] [] _
    refine XS.aloadN X5.here hx rfl (hb hby d10_9) rfl rfl ?_
    show own_At p e below T5 m 10 #[rv ao, rv a1, rv a2] [(.ref ao)] _
    refine XS.aloadN X5.here hx rfl (hb hby d10_10) rfl rfl ?_
    show own_At p e below T5 m 11 #[rv ao, rv a1, rv a2] [(.ref a2), (.ref ao)] _
    exact kt)
  obtain ⟨T13, h13, X13, e13, W13, ls13⟩ := putF X5 hx hZ hown (host := "") (Or.inl (hw _ (List.mem_of_getElem? (i := 74) rfl))) Via.refl e5 f7 f8 (Or.inr ⟨(hw _ (List.mem_of_getElem? (i := 75) rfl)), rfl, hnm⟩) (hw _ (List.mem_of_getElem? (i := 57) rfl)) (ty := (.array .int)) (by decide) rfl rfl (g := (mkF m 11 #[rv ao, rv a1, rv a2] [(.ref a2), (.ref ao)])) rfl rfl (hb hby d10_11)
  have N13 := Fr.snoc X13 N5 g_ao
  have f14 := f6.other W13 (Or.inr (slot_ne (Or.inr (hw _ (List.mem_of_getElem? (i := 73) rfl))) (Or.inr (hw _ (List.mem_of_getElem? (i := 75) rfl))) (by decide) (t := (.array .int)) (t' := (.array .int)) (by decide) (by decide)))
  have f15 := f7.same W13
  have f16 := f8.wr W13
  have z17 := Nat.le_trans z9 (Keep.of_wr W13).1
  have k18 := k10.wr W13 (Or.inl (List.mem_of_getElem? (i := 0) rfl))
  have st19 : own_Go p e below (T13.setTop (mkF m 14 #[rv ao, rv a1, rv a2] [])) B0 := fun t kt => st12 t (ls13 t kt)
  obtain ⟨fs, hr, hrun, hended, hW, hsame⟩ := X13.leave (v := none) (fun _ => rfl)
  subst hB0
  refine ⟨_, _, st19 _ ?_, hrun, hended, _, _, rfl, ?_, ⟨_, rfl⟩, hW, hsame.mono (by decide) (by decide)⟩
  · exact X13.returnOut hx Bd.returns (hb hby d10_14) hr
  · show Q_rm_vi Z ao a1 a2 h0 n0 _ T13.heap _
    rw [e13]
    exact ⟨rfl, N13, k18, f14, f15⟩
def Q_rm_acc_termNumbers (Z : State) (ao : Addr) (a1 : Addr) (h0 : Heap) (n0 : Nat) (v : Option Value) (h : Heap) (L : List Loc) : Prop := v = some (.ref a1) ∧ Fr n0 L ∧ h = h0
set_option maxRecDepth 65536 in
set_option maxHeartbeats 40000000 in
theorem rm_acc_termNumbers (l : Launch) (Z : State) (a0 : Array Value) (hw : ∀ d ∈ tables_1, d.before a0 Z = true) (ws : List Jvm.Cond) (ao : Addr) (a1 : Addr) (h0 : Heap) (n0 : Nat) (Z0 : n0 ≤ h0.size) (F_termNumbers_ao : Fld Z h0 ao "com/example/ranked_text_search/rankedtextsearch/TermVectors$Vector" "termNumbers" "[I" (.ref a1)) :
    MetFree l (⟨"com/example/ranked_text_search/rankedtextsearch/TermVectors$Vector", "termNumbers", "()[I"⟩ : MethodName) (head1 (Jvm.Cond.code (⟨"com/example/ranked_text_search/rankedtextsearch/TermVectors$Vector", "termNumbers", "()[I"⟩ : MethodName) prog_100_method_5_code 1 (some (.array .int)) :: ws) ({ frames := 0, cells := 0, slots := 0, locals := 0 } : Room)) (fun a U => a = #[(.ref ao)] ∧ Z.Warmed39 U.vm ∧ U.heap = h0) (fun _ _ _ _ _ => True) (fun _ U o U' => ∃ v L, o = .returned v ∧ Q_rm_acc_termNumbers Z ao a1 h0 n0 v U'.heap L ∧ FrameEnd U o U' L ({ frames := 0, cells := 0, slots := 0, locals := 0 } : Room).cells ({ frames := 0, cells := 0, slots := 0, locals := 0 } : Room).slots) := by
  refine MetFree.of_bodySF (plainFor_of_name own_pn3) hisR ?_
  intro p e s m args below meth c s₁ Bd hml0 hP hK
  obtain ⟨rfl, hZ, hh⟩ := hP
  have hx := Bd.exec
  have hby := Bd.bytes
  have hml : c.maxLocals = 1 := hml0
  have hown : s.vm.findClass "com/example/ranked_text_search/rankedtextsearch/TermVectors$Vector" = some m.cls := findClass_of_methodNamed Bd.named
  have hnm := (name_of_methodNamed Bd.named Bd.method).1
  have X0 : Stand p l e ({ frames := 0, cells := 0, slots := 0, locals := 0 } : Room) s m #[(.ref ao)] below meth c s₁ [] 0 0 := Stand.of_body Bd
  have e0 : s₁.heap = h0 := by rw [← hh, Bd.state]; rfl
  have N0 := Fr.nil n0
  obtain ⟨B0, hB0⟩ : ∃ B, B = (s₁.setTop (entryFrame m #[(.ref ao)] 1)) := ⟨_, rfl⟩
  have st0 : own_Go p e below (s₁.setTop (mkF m 0 #[rv ao] [])) B0 := fun t k => hB0 ▸ castTop (own_ef12_R m ao) k
  have st1 : own_Go p e below (s₁.setTop (mkF m 1 #[rv ao] [(.ref ao)])) B0 := fun t kt => st0 t (by
    show own_At p e below s₁ m 0 #[rv ao] [] _
    refine XS.aloadN X0.here hx rfl (hb hby d12_0) rfl rfl ?_
    show own_At p e below s₁ m 1 #[rv ao] [(.ref ao)] _
    exact kt)
  obtain ⟨T2, X2, e2, ls2⟩ := getF X0 hx hZ hown (host := "") (Or.inl (hw _ (List.mem_of_getElem? (i := 72) rfl))) Via.refl e0 F_termNumbers_ao (g := (mkF m 1 #[rv ao] [(.ref ao)])) rfl rfl (hb hby d12_1)
  have st3 : own_Go p e below (T2.setTop (mkF m 4 #[rv ao] [(.ref a1)])) B0 := fun t kt => st1 t (ls2 t kt)
  obtain ⟨fs, hr, hrun, hended, hW, hsame⟩ := X2.leave (v := (some (.ref a1))) (fun h => by rw [Bd.returns] at h; cases h)
  subst hB0
  refine ⟨_, _, st3 _ ?_, hrun, hended, _, _, rfl, ?_, ⟨_, rfl⟩, hW, hsame.mono (by decide) (by decide)⟩
  · exact retOut X2 hx Bd.returns rfl (Or.inr (Or.inr (Or.inr (Or.inr ⟨rfl, rfl, rfl⟩)))) (hb hby d12_4) hr
  · show Q_rm_acc_termNumbers Z ao a1 h0 n0 _ T2.heap _
    rw [e2]
    exact ⟨rfl, N0, rfl⟩
def Q_rm_acc_frequencies (Z : State) (ao : Addr) (a1 : Addr) (h0 : Heap) (n0 : Nat) (v : Option Value) (h : Heap) (L : List Loc) : Prop := v = some (.ref a1) ∧ Fr n0 L ∧ h = h0
set_option maxRecDepth 65536 in
set_option maxHeartbeats 40000000 in
theorem rm_acc_frequencies (l : Launch) (Z : State) (a0 : Array Value) (hw : ∀ d ∈ tables_1, d.before a0 Z = true) (ws : List Jvm.Cond) (ao : Addr) (a1 : Addr) (h0 : Heap) (n0 : Nat) (Z0 : n0 ≤ h0.size) (F_frequencies_ao : Fld Z h0 ao "com/example/ranked_text_search/rankedtextsearch/TermVectors$Vector" "frequencies" "[I" (.ref a1)) :
    MetFree l (⟨"com/example/ranked_text_search/rankedtextsearch/TermVectors$Vector", "frequencies", "()[I"⟩ : MethodName) (head1 (Jvm.Cond.code (⟨"com/example/ranked_text_search/rankedtextsearch/TermVectors$Vector", "frequencies", "()[I"⟩ : MethodName) prog_100_method_6_code 1 (some (.array .int)) :: ws) ({ frames := 0, cells := 0, slots := 0, locals := 0 } : Room)) (fun a U => a = #[(.ref ao)] ∧ Z.Warmed39 U.vm ∧ U.heap = h0) (fun _ _ _ _ _ => True) (fun _ U o U' => ∃ v L, o = .returned v ∧ Q_rm_acc_frequencies Z ao a1 h0 n0 v U'.heap L ∧ FrameEnd U o U' L ({ frames := 0, cells := 0, slots := 0, locals := 0 } : Room).cells ({ frames := 0, cells := 0, slots := 0, locals := 0 } : Room).slots) := by
  refine MetFree.of_bodySF (plainFor_of_name own_pn3) hisR ?_
  intro p e s m args below meth c s₁ Bd hml0 hP hK
  obtain ⟨rfl, hZ, hh⟩ := hP
  have hx := Bd.exec
  have hby := Bd.bytes
  have hml : c.maxLocals = 1 := hml0
  have hown : s.vm.findClass "com/example/ranked_text_search/rankedtextsearch/TermVectors$Vector" = some m.cls := findClass_of_methodNamed Bd.named
  have hnm := (name_of_methodNamed Bd.named Bd.method).1
  have X0 : Stand p l e ({ frames := 0, cells := 0, slots := 0, locals := 0 } : Room) s m #[(.ref ao)] below meth c s₁ [] 0 0 := Stand.of_body Bd
  have e0 : s₁.heap = h0 := by rw [← hh, Bd.state]; rfl
  have N0 := Fr.nil n0
  obtain ⟨B0, hB0⟩ : ∃ B, B = (s₁.setTop (entryFrame m #[(.ref ao)] 1)) := ⟨_, rfl⟩
  have st0 : own_Go p e below (s₁.setTop (mkF m 0 #[rv ao] [])) B0 := fun t k => hB0 ▸ castTop (own_ef13_R m ao) k
  have st1 : own_Go p e below (s₁.setTop (mkF m 1 #[rv ao] [(.ref ao)])) B0 := fun t kt => st0 t (by
    show own_At p e below s₁ m 0 #[rv ao] [] _
    refine XS.aloadN X0.here hx rfl (hb hby d13_0) rfl rfl ?_
    show own_At p e below s₁ m 1 #[rv ao] [(.ref ao)] _
    exact kt)
  obtain ⟨T2, X2, e2, ls2⟩ := getF X0 hx hZ hown (host := "") (Or.inl (hw _ (List.mem_of_getElem? (i := 74) rfl))) Via.refl e0 F_frequencies_ao (g := (mkF m 1 #[rv ao] [(.ref ao)])) rfl rfl (hb hby d13_1)
  have st3 : own_Go p e below (T2.setTop (mkF m 4 #[rv ao] [(.ref a1)])) B0 := fun t kt => st1 t (ls2 t kt)
  obtain ⟨fs, hr, hrun, hended, hW, hsame⟩ := X2.leave (v := (some (.ref a1))) (fun h => by rw [Bd.returns] at h; cases h)
  subst hB0
  refine ⟨_, _, st3 _ ?_, hrun, hended, _, _, rfl, ?_, ⟨_, rfl⟩, hW, hsame.mono (by decide) (by decide)⟩
  · exact retOut X2 hx Bd.returns rfl (Or.inr (Or.inr (Or.inr (Or.inr ⟨rfl, rfl, rfl⟩)))) (hb hby d13_4) hr
  · show Q_rm_acc_frequencies Z ao a1 h0 n0 _ T2.heap _
    rw [e2]
    exact ⟨rfl, N0, rfl⟩
def Q_rm_vec_1_3 (Z : State) (ao : Addr) (ud : Int32) (uf : Int32) (nx : Nat → Int32) (T : Nat → Int32) (F : Nat → Int32) (h0 : Heap) (n0 : Nat) (v : Option Value) (h : Heap) (L : List Loc) : Prop := ∃ a r1 r2, v = some (.ref a) ∧ Fr n0 L ∧ Keep h0 h [] ∧ Exa Z h a "com/example/ranked_text_search/rankedtextsearch/TermVectors$Vector" ∧ Fld Z h a "com/example/ranked_text_search/rankedtextsearch/TermVectors$Vector" "termNumbers" "[I" (.ref r1) ∧ Fld Z h a "com/example/ranked_text_search/rankedtextsearch/TermVectors$Vector" "frequencies" "[I" (.ref r2) ∧ own_Av Z h r1 .int 2 (fun q => .int (T (1 + q))) ∧ own_Av Z h r2 .int 2 (fun q => .int (F (1 + q)))
set_option maxRecDepth 65536 in
set_option maxHeartbeats 40000000 in
theorem rm_vec_1_3 (l : Launch) (Z : State) (a0 : Array Value) (hw : ∀ d ∈ tables_1, d.before a0 Z = true) (ws : List Jvm.Cond) (ao : Addr) (ud : Int32) (uf : Int32) (nx : Nat → Int32) (T : Nat → Int32) (F : Nat → Int32) (h0 : Heap) (n0 : Nat) (Z0 : n0 ≤ h0.size) (V : own_VS Z h0 n0 ao uf nx T F) (hd : ud - uf = 1) :
    MetFree l (⟨"com/example/ranked_text_search/rankedtextsearch/MemoryTermVectors", "vector", "(I)Lcom/example/ranked_text_search/rankedtextsearch/TermVectors$Vector;"⟩ : MethodName) (head1 (Jvm.Cond.code (⟨"com/example/ranked_text_search/rankedtextsearch/MemoryTermVectors", "vector", "(I)Lcom/example/ranked_text_search/rankedtextsearch/TermVectors$Vector;"⟩ : MethodName) prog_50_method_5_code 4 (some (.object "com/example/ranked_text_search/rankedtextsearch/TermVectors$Vector")) :: ws) ({ frames := 3, cells := 3, slots := 6, locals := 39 } : Room)) (fun a U => a = #[(.ref ao), (.int ud)] ∧ Z.Warmed39 U.vm ∧ U.heap = h0) (fun _ _ _ _ _ => True) (fun _ U o U' => ∃ v L, o = .returned v ∧ Q_rm_vec_1_3 Z ao ud uf nx T F h0 n0 v U'.heap L ∧ FrameEnd U o U' L ({ frames := 3, cells := 3, slots := 6, locals := 39 } : Room).cells ({ frames := 3, cells := 3, slots := 6, locals := 39 } : Room).slots) := by
  refine MetFree.of_bodySF (plainFor_of_name own_pn2) hisR ?_
  intro p e s m args below meth c s₁ Bd hml0 hP hK
  obtain ⟨rfl, hZ, hh⟩ := hP
  have hx := Bd.exec
  have hby := Bd.bytes
  have hml : c.maxLocals = 4 := hml0
  have hown : s.vm.findClass "com/example/ranked_text_search/rankedtextsearch/MemoryTermVectors" = some m.cls := findClass_of_methodNamed Bd.named
  have hnm := (name_of_methodNamed Bd.named Bd.method).1
  have X0 : Stand p l e ({ frames := 3, cells := 3, slots := 6, locals := 39 } : Room) s m #[(.ref ao), (.int ud)] below meth c s₁ [] 0 0 := Stand.of_body Bd
  have e0 : s₁.heap = h0 := by rw [← hh, Bd.state]; rfl
  have N0 := Fr.nil n0
  obtain ⟨B0, hB0⟩ : ∃ B, B = (s₁.setTop (entryFrame m #[(.ref ao), (.int ud)] 4)) := ⟨_, rfl⟩
  have st0 : own_Go p e below (s₁.setTop (mkF m 0 #[rv ao, iv ud, .unset, .unset] [])) B0 := fun t k => hB0 ▸ castTop (own_ef8_RI m ao ud) k
  have k0 : Keep h0 h0 [] := Keep.refl _ _
  obtain ⟨E_ao, F_from, bs, bn, bt, bf, t0, f0, hge, nd, F_starts, F_next, F_tn, F_fq, A_bs, A_bn, A_bt, A_t0, A_bf, A_f0⟩ := V
  have g_ao := hge ao (List.mem_of_getElem? (i := 0) rfl)
  have ne_ao_bs := own_nd nd 0 1 rfl rfl (by decide)
  have ne_ao_bn := own_nd nd 0 2 rfl rfl (by decide)
  have ne_ao_bt := own_nd nd 0 3 rfl rfl (by decide)
  have ne_ao_bf := own_nd nd 0 4 rfl rfl (by decide)
  have ne_ao_t0 := own_nd nd 0 5 rfl rfl (by decide)
  have ne_ao_f0 := own_nd nd 0 6 rfl rfl (by decide)
  have g_bs := hge bs (List.mem_of_getElem? (i := 1) rfl)
  have ne_bs_bn := own_nd nd 1 2 rfl rfl (by decide)
  have ne_bs_bt := own_nd nd 1 3 rfl rfl (by decide)
  have ne_bs_bf := own_nd nd 1 4 rfl rfl (by decide)
  have ne_bs_t0 := own_nd nd 1 5 rfl rfl (by decide)
  have ne_bs_f0 := own_nd nd 1 6 rfl rfl (by decide)
  have g_bn := hge bn (List.mem_of_getElem? (i := 2) rfl)
  have ne_bn_bt := own_nd nd 2 3 rfl rfl (by decide)
  have ne_bn_bf := own_nd nd 2 4 rfl rfl (by decide)
  have ne_bn_t0 := own_nd nd 2 5 rfl rfl (by decide)
  have ne_bn_f0 := own_nd nd 2 6 rfl rfl (by decide)
  have g_bt := hge bt (List.mem_of_getElem? (i := 3) rfl)
  have ne_bt_bf := own_nd nd 3 4 rfl rfl (by decide)
  have ne_bt_t0 := own_nd nd 3 5 rfl rfl (by decide)
  have ne_bt_f0 := own_nd nd 3 6 rfl rfl (by decide)
  have g_bf := hge bf (List.mem_of_getElem? (i := 4) rfl)
  have ne_bf_t0 := own_nd nd 4 5 rfl rfl (by decide)
  have ne_bf_f0 := own_nd nd 4 6 rfl rfl (by decide)
  have g_t0 := hge t0 (List.mem_of_getElem? (i := 5) rfl)
  have ne_t0_f0 := own_nd nd 5 6 rfl rfl (by decide)
  have g_f0 := hge f0 (List.mem_of_getElem? (i := 6) rfl)
  have st1 : own_Go p e below (s₁.setTop (mkF m 1 #[rv ao, iv ud, .unset, .unset] [(.ref ao)])) B0 := fun t kt => st0 t (by
    show own_At p e below s₁ m 0 #[rv ao, iv ud, .unset, .unset] [] _
    refine XS.aloadN X0.here hx rfl (hb hby d8_0) rfl rfl ?_
    show own_At p e below s₁ m 1 #[rv ao, iv ud, .unset, .unset] [(.ref ao)] _
    exact kt)
  obtain ⟨T2, X2, e2, ls2⟩ := getF X0 hx hZ hown (host := "") (Or.inl (hw _ (List.mem_of_getElem? (i := 21) rfl))) Via.refl e0 F_starts (g := (mkF m 1 #[rv ao, iv ud, .unset, .unset] [(.ref ao)])) rfl rfl (hb hby d8_1)
  have st3 : own_Go p e below (T2.setTop (mkF m 4 #[rv ao, iv ud, .unset, .unset] [(.ref bs)])) B0 := fun t kt => st1 t (ls2 t kt)
  have st4 : own_Go p e below (T2.setTop (mkF m 6 #[rv ao, iv ud, .unset, .unset] [(.ref ao), (.int ud), (.ref bs)])) B0 := fun t kt => st3 t (by
    show own_At p e below T2 m 4 #[rv ao, iv ud, .unset, .unset] [(.ref bs)] _
    refine XS.iloadN X2.here hx rfl (hb hby d8_4) rfl ?_
    show own_At p e below T2 m 5 #[rv ao, iv ud, .unset, .unset] [(.int ud), (.ref bs)] _
    refine XS.aloadN X2.here hx rfl (hb hby d8_5) rfl rfl ?_
    show own_At p e below T2 m 6 #[rv ao, iv ud, .unset, .unset] [(.ref ao), (.int ud), (.ref bs)] _
    exact kt)
  obtain ⟨T5, X5, e5, ls5⟩ := getF X2 hx hZ hown (host := "") (Or.inl (hw _ (List.mem_of_getElem? (i := 19) rfl))) Via.refl e2 F_from (g := (mkF m 6 #[rv ao, iv ud, .unset, .unset] [(.ref ao), (.int ud), (.ref bs)])) rfl rfl (hb hby d8_6)
  have st6 : own_Go p e below (T5.setTop (mkF m 9 #[rv ao, iv ud, .unset, .unset] [(.int uf), (.int ud), (.ref bs)])) B0 := fun t kt => st4 t (ls5 t kt)
  have st7 : own_Go p e below (T5.setTop (mkF m 10 #[rv ao, iv ud, .unset, .unset] [(.int (ud - uf)), (.ref bs)])) B0 := fun t kt => st6 t (by
    show own_At p e below T5 m 9 #[rv ao, iv ud, .unset, .unset] [(.int uf), (.int ud), (.ref bs)] _
    refine XS.isub X5.here hx rfl (hb hby d8_9) rfl ?_
    show own_At p e below T5 m 10 #[rv ao, iv ud, .unset, .unset] [(.int (ud - uf)), (.ref bs)] _
    exact kt)
  have ls8 := own_iaload X5 hx hZ e5 A_bs (j := (ud - uf)) (i := 1) (by rw [hd]; decide) (by rw [hd]; decide) (by decide) (v := (.int (1 : Int32))) (rfl) (g := (mkF m 10 #[rv ao, iv ud, .unset, .unset] [(.int (ud - uf)), (.ref bs)])) rfl rfl (hb hby d8_10)
  have st9 : own_Go p e below (T5.setTop (mkF m 11 #[rv ao, iv ud, .unset, .unset] [(.int (1 : Int32))])) B0 := fun t kt => st7 t (ls8 t kt)
  have st10 : own_Go p e below (T5.setTop (mkF m 13 #[rv ao, iv ud, iv (1 : Int32), .unset] [(.ref ao)])) B0 := fun t kt => st9 t (by
    show own_At p e below T5 m 11 #[rv ao, iv ud, .unset, .unset] [(.int (1 : Int32))] _
    refine XS.istoreN X5.here hx rfl (hb hby d8_11) rfl (l' := #[rv ao, iv ud, iv (1 : Int32), .unset]) rfl ?_
    show own_At p e below T5 m 12 #[rv ao, iv ud, iv (1 : Int32), .unset] [] _
    refine XS.aloadN X5.here hx rfl (hb hby d8_12) rfl rfl ?_
    show own_At p e below T5 m 13 #[rv ao, iv ud, iv (1 : Int32), .unset] [(.ref ao)] _
    exact kt)
  obtain ⟨T11, X11, e11, ls11⟩ := getF X5 hx hZ hown (host := "") (Or.inl (hw _ (List.mem_of_getElem? (i := 21) rfl))) Via.refl e5 F_starts (g := (mkF m 13 #[rv ao, iv ud, iv (1 : Int32), .unset] [(.ref ao)])) rfl rfl (hb hby d8_13)
  have st12 : own_Go p e below (T11.setTop (mkF m 16 #[rv ao, iv ud, iv (1 : Int32), .unset] [(.ref bs)])) B0 := fun t kt => st10 t (ls11 t kt)
  have st13 : own_Go p e below (T11.setTop (mkF m 18 #[rv ao, iv ud, iv (1 : Int32), .unset] [(.ref ao), (.int ud), (.ref bs)])) B0 := fun t kt => st12 t (by
    show own_At p e below T11 m 16 #[rv ao, iv ud, iv (1 : Int32), .unset] [(.ref bs)] _
    refine XS.iloadN X11.here hx rfl (hb hby d8_16) rfl ?_
    show own_At p e below T11 m 17 #[rv ao, iv ud, iv (1 : Int32), .unset] [(.int ud), (.ref bs)] _
    refine XS.aloadN X11.here hx rfl (hb hby d8_17) rfl rfl ?_
    show own_At p e below T11 m 18 #[rv ao, iv ud, iv (1 : Int32), .unset] [(.ref ao), (.int ud), (.ref bs)] _
    exact kt)
  obtain ⟨T14, X14, e14, ls14⟩ := getF X11 hx hZ hown (host := "") (Or.inl (hw _ (List.mem_of_getElem? (i := 19) rfl))) Via.refl e11 F_from (g := (mkF m 18 #[rv ao, iv ud, iv (1 : Int32), .unset] [(.ref ao), (.int ud), (.ref bs)])) rfl rfl (hb hby d8_18)
  have st15 : own_Go p e below (T14.setTop (mkF m 21 #[rv ao, iv ud, iv (1 : Int32), .unset] [(.int uf), (.int ud), (.ref bs)])) B0 := fun t kt => st13 t (ls14 t kt)
  have st16 : own_Go p e below (T14.setTop (mkF m 24 #[rv ao, iv ud, iv (1 : Int32), .unset] [(.int ((ud - uf) + (1 : Int32))), (.ref bs)])) B0 := fun t kt => st15 t (by
    show own_At p e below T14 m 21 #[rv ao, iv ud, iv (1 : Int32), .unset] [(.int uf), (.int ud), (.ref bs)] _
    refine XS.isub X14.here hx rfl (hb hby d8_21) rfl ?_
    show own_At p e below T14 m 22 #[rv ao, iv ud, iv (1 : Int32), .unset] [(.int (ud - uf)), (.ref bs)] _
    refine XS.iconst X14.here hx rfl (hb hby d8_22) ?_
    show own_At p e below T14 m 23 #[rv ao, iv ud, iv (1 : Int32), .unset] [(.int (1 : Int32)), (.int (ud - uf)), (.ref bs)] _
    refine XS.iadd X14.here hx rfl (hb hby d8_23) rfl ?_
    show own_At p e below T14 m 24 #[rv ao, iv ud, iv (1 : Int32), .unset] [(.int ((ud - uf) + (1 : Int32))), (.ref bs)] _
    exact kt)
  have ls17 := own_iaload X14 hx hZ e14 A_bs (j := ((ud - uf) + (1 : Int32))) (i := 2) (by rw [hd]; decide) (by rw [hd]; decide) (by decide) (v := (.int (3 : Int32))) (rfl) (g := (mkF m 24 #[rv ao, iv ud, iv (1 : Int32), .unset] [(.int ((ud - uf) + (1 : Int32))), (.ref bs)])) rfl rfl (hb hby d8_24)
  have st18 : own_Go p e below (T14.setTop (mkF m 25 #[rv ao, iv ud, iv (1 : Int32), .unset] [(.int (3 : Int32))])) B0 := fun t kt => st16 t (ls17 t kt)
  have st19 : own_Go p e below (T14.setTop (mkF m 26 #[rv ao, iv ud, iv (1 : Int32), iv (3 : Int32)] [])) B0 := fun t kt => st18 t (by
    show own_At p e below T14 m 25 #[rv ao, iv ud, iv (1 : Int32), .unset] [(.int (3 : Int32))] _
    refine XS.istoreN X14.here hx rfl (hb hby d8_25) rfl (l' := #[rv ao, iv ud, iv (1 : Int32), iv (3 : Int32)]) rfl ?_
    show own_At p e below T14 m 26 #[rv ao, iv ud, iv (1 : Int32), iv (3 : Int32)] [] _
    exact kt)
  obtain ⟨T20, h20, X20, e20, E20, A20, D20, -, ls20⟩ := newO X14 hx hZ hown (hw _ (List.mem_of_getElem? (i := 56) rfl)) (hw _ (List.mem_of_getElem? (i := 57) rfl)) (hw _ (List.mem_of_getElem? (i := 58) rfl)) e14 (g := (mkF m 26 #[rv ao, iv ud, iv (1 : Int32), iv (3 : Int32)] [])) rfl (hb hby d8_26) (by decide) (by decide)
  obtain ⟨vb, g20⟩ : ∃ z, z = h0.size := ⟨_, rfl⟩
  rw [← g20] at A20 D20 ls20
  have ne_ao_vb : ao ≠ vb := Nat.ne_of_lt (Nat.lt_of_lt_of_le E_ao.lt (Nat.le_of_eq g20.symm))
  have ne_bs_vb : bs ≠ vb := Nat.ne_of_lt (Nat.lt_of_lt_of_le A_bs.lt (Nat.le_of_eq g20.symm))
  have ne_bn_vb : bn ≠ vb := Nat.ne_of_lt (Nat.lt_of_lt_of_le A_bn.lt (Nat.le_of_eq g20.symm))
  have ne_bt_vb : bt ≠ vb := Nat.ne_of_lt (Nat.lt_of_lt_of_le A_bt.lt (Nat.le_of_eq g20.symm))
  have ne_bf_vb : bf ≠ vb := Nat.ne_of_lt (Nat.lt_of_lt_of_le A_bf.lt (Nat.le_of_eq g20.symm))
  have ne_t0_vb : t0 ≠ vb := Nat.ne_of_lt (Nat.lt_of_lt_of_le A_t0.lt (Nat.le_of_eq g20.symm))
  have ne_f0_vb : f0 ≠ vb := Nat.ne_of_lt (Nat.lt_of_lt_of_le A_f0.lt (Nat.le_of_eq g20.symm))
  have g_vb : n0 ≤ vb := Nat.le_trans Z0 (Nat.le_of_eq g20.symm)
  have sz_vb : h0.size ≤ vb := Nat.le_trans k0.1 (Nat.le_of_eq g20.symm)
  have f21 := E_ao.ext E20
  have f22 := F_from.ext E20
  have f23 := F_starts.ext E20
  have f24 := F_next.ext E20
  have f25 := F_tn.ext E20
  have f26 := F_fq.ext E20
  have f27 := A_bs.ext E20
  have f28 := A_bn.ext E20
  have f29 := A_bt.ext E20
  have f30 := A_bf.ext E20
  have f31 := A_t0.ext E20
  have f32 := A_f0.ext E20
  have z33 := Nat.le_trans Z0 E20.1
  have k34 := k0.ext E20
  have f35 : Fld Z h20 vb "com/example/ranked_text_search/rankedtextsearch/TermVectors$Vector" "termNumbers" "[I" .null := D20 (Or.inr (hw _ (List.mem_of_getElem? (i := 73) rfl))) (ty := (.array .int)) (by decide)
  have f36 : Fld Z h20 vb "com/example/ranked_text_search/rankedtextsearch/TermVectors$Vector" "frequencies" "[I" .null := D20 (Or.inr (hw _ (List.mem_of_getElem? (i := 75) rfl))) (ty := (.array .int)) (by decide)
  have st37 : own_Go p e below (T20.setTop (mkF m 29 #[rv ao, iv ud, iv (1 : Int32), iv (3 : Int32)] [(.ref vb)])) B0 := fun t kt => st19 t (ls20 t kt)
  have st38 : own_Go p e below (T20.setTop (mkF m 31 #[rv ao, iv ud, iv (1 : Int32), iv (3 : Int32)] [(.ref ao), (.ref vb), (.ref vb)])) B0 := fun t kt => st37 t (by
    show own_At p e below T20 m 29 #[rv ao, iv ud, iv (1 : Int32), iv (3 : Int32)] [(.ref vb)] _
    refine XS.dup X20.here hx rfl (hb hby d8_29) rfl rfl ?_
    show own_At p e below T20 m 30 #[rv ao, iv ud, iv (1 : Int32), iv (3 : Int32)] [(.ref vb), (.ref vb)] _
    refine XS.aloadN X20.here hx rfl (hb hby d8_30) rfl rfl ?_
    show own_At p e below T20 m 31 #[rv ao, iv ud, iv (1 : Int32), iv (3 : Int32)] [(.ref ao), (.ref vb), (.ref vb)] _
    exact kt)
  obtain ⟨T39, X39, e39, ls39⟩ := getF X20 hx hZ hown (host := "") (Or.inl (hw _ (List.mem_of_getElem? (i := 31) rfl))) Via.refl e20 f25 (g := (mkF m 31 #[rv ao, iv ud, iv (1 : Int32), iv (3 : Int32)] [(.ref ao), (.ref vb), (.ref vb)])) rfl rfl (hb hby d8_31)
  have st40 : own_Go p e below (T39.setTop (mkF m 34 #[rv ao, iv ud, iv (1 : Int32), iv (3 : Int32)] [(.ref bt), (.ref vb), (.ref vb)])) B0 := fun t kt => st38 t (ls39 t kt)
  have st41 : own_Go p e below (T39.setTop (mkF m 36 #[rv ao, iv ud, iv (1 : Int32), iv (3 : Int32)] [(.int (3 : Int32)), (.int (1 : Int32)), (.ref bt), (.ref vb), (.ref vb)])) B0 := fun t kt => st40 t (by
    show own_At p e below T39 m 34 #[rv ao, iv ud, iv (1 : Int32), iv (3 : Int32)] [(.ref bt), (.ref vb), (.ref vb)] _
    refine XS.iloadN X39.here hx rfl (hb hby d8_34) rfl ?_
    show own_At p e below T39 m 35 #[rv ao, iv ud, iv (1 : Int32), iv (3 : Int32)] [(.int (1 : Int32)), (.ref bt), (.ref vb), (.ref vb)] _
    refine XS.iloadN X39.here hx rfl (hb hby d8_35) rfl ?_
    show own_At p e below T39 m 36 #[rv ao, iv ud, iv (1 : Int32), iv (3 : Int32)] [(.int (3 : Int32)), (.int (1 : Int32)), (.ref bt), (.ref vb), (.ref vb)] _
    exact kt)
  have lt42_ao := f21.lt
  have lt42_bs := f27.lt
  have lt42_bn := f28.lt
  have lt42_bt := f29.lt
  have lt42_bf := f30.lt
  have lt42_t0 := f31.lt
  have lt42_f0 := f32.lt
  have lt42_vb := A20.lt
  obtain ⟨_, _, ⟨T42, L42, k42, n42⟩, -, X42, ⟨Lc42, hQ42, l42, y42, z42⟩, ls42⟩ := Jvm.LawKit.callS X39 hx (y := (⟨"com/example/ranked_text_search/rankedtextsearch/MemoryTermVectors", "copy", "([[III)[I"⟩ : MethodName)) hown (mvT hZ (hw _ (List.mem_of_getElem? (i := 59) rfl))) (mvT hZ (hw _ (List.mem_of_getElem? (i := 60) rfl))) (mvT hZ (hw _ (List.mem_of_getElem? (i := 10) rfl))) (mvT hZ (hw _ (List.mem_of_getElem? (i := 61) rfl))) (by decide) (backOf (W := 2) (rm_cp_1_3 l Z a0 hw [] bt t0 T h20 n0 z33 f29 f31) hZ (hw _ (List.mem_of_getElem? (i := 61) rfl)) (hw _ (List.mem_of_getElem? (i := 10) rfl)) (by decide) (by decide)) (g := (mkF m 36 #[rv ao, iv ud, iv (1 : Int32), iv (3 : Int32)] [(.int (3 : Int32)), (.int (1 : Int32)), (.ref bt), (.ref vb), (.ref vb)])) rfl (by rw [hml]; rfl) (argsL := [(.ref bt), (.int (1 : Int32)), (.int (3 : Int32))]) (rest := [(.ref vb), (.ref vb)]) (lenOf own_pd4 rfl) rfl (by show 2 * 0 + _ ≤ _; exact Nat.le_of_eq rfl) (hb hby d8_36) (fun _ _ => ⟨rfl, e39, (by decide : 1 + 1 ≤ _), (by decide : 2 + 2 ≤ _)⟩)
  dsimp only [Pt.U, Pt.locs, Pt.cells, Pt.slots] at X42 l42 y42 z42 ls42 hQ42
  subst l42 y42 z42
  obtain ⟨bq42, rfl, Nq42, Kq42, g_bq42, sq42, Aq42⟩ := hQ42
  have N42 := Fr.app N0 Nq42
  have f43 := f21.keep Kq42
  have f44 := f22.keep Kq42 nin0
  have f45 := f23.keep Kq42 nin0
  have f46 := f24.keep Kq42 nin0
  have f47 := f25.keep Kq42 nin0
  have f48 := f26.keep Kq42 nin0
  have f49 := f27.keep Kq42 nin0
  have f50 := f28.keep Kq42 nin0
  have f51 := f29.keep Kq42 nin0
  have f52 := f30.keep Kq42 nin0
  have f53 := f31.keep Kq42 nin0
  have f54 := f32.keep Kq42 nin0
  have f55 := A20.keep Kq42
  have f56 := f35.keep Kq42 nin0
  have f57 := f36.keep Kq42 nin0
  have z58 := Nat.le_trans z33 Kq42.1
  have k59 := Keep.trans k34 Kq42 all0
  have ne_ao_bq42 : ao ≠ bq42 := Nat.ne_of_lt (Nat.lt_of_lt_of_le lt42_ao sq42)
  have ne_bs_bq42 : bs ≠ bq42 := Nat.ne_of_lt (Nat.lt_of_lt_of_le lt42_bs sq42)
  have ne_bn_bq42 : bn ≠ bq42 := Nat.ne_of_lt (Nat.lt_of_lt_of_le lt42_bn sq42)
  have ne_bt_bq42 : bt ≠ bq42 := Nat.ne_of_lt (Nat.lt_of_lt_of_le lt42_bt sq42)
  have ne_bf_bq42 : bf ≠ bq42 := Nat.ne_of_lt (Nat.lt_of_lt_of_le lt42_bf sq42)
  have ne_t0_bq42 : t0 ≠ bq42 := Nat.ne_of_lt (Nat.lt_of_lt_of_le lt42_t0 sq42)
  have ne_f0_bq42 : f0 ≠ bq42 := Nat.ne_of_lt (Nat.lt_of_lt_of_le lt42_f0 sq42)
  have ne_vb_bq42 : vb ≠ bq42 := Nat.ne_of_lt (Nat.lt_of_lt_of_le lt42_vb sq42)
  have sz_bq42 : h0.size ≤ bq42 := Nat.le_trans k34.1 sq42
  have st60 : own_Go p e below (T42.setTop (mkF m 39 #[rv ao, iv ud, iv (1 : Int32), iv (3 : Int32)] [(.ref bq42), (.ref vb), (.ref vb)])) B0 := fun t kt => st41 t (ls42 t kt)
  have st61 : own_Go p e below (T42.setTop (mkF m 40 #[rv ao, iv ud, iv (1 : Int32), iv (3 : Int32)] [(.ref ao), (.ref bq42), (.ref vb), (.ref vb)])) B0 := fun t kt => st60 t (by
    show own_At p e below T42 m 39 #[rv ao, iv ud, iv (1 : Int32), iv (3 : Int32)] [(.ref bq42), (.ref vb), (.ref vb)] _
    refine XS.aloadN X42.here hx rfl (hb hby d8_39) rfl rfl ?_
    show own_At p e below T42 m 40 #[rv ao, iv ud, iv (1 : Int32), iv (3 : Int32)] [(.ref ao), (.ref bq42), (.ref vb), (.ref vb)] _
    exact kt)
  obtain ⟨T62, X62, e62, ls62⟩ := getF X42 hx hZ hown (host := "") (Or.inl (hw _ (List.mem_of_getElem? (i := 33) rfl))) Via.refl rfl f48 (g := (mkF m 40 #[rv ao, iv ud, iv (1 : Int32), iv (3 : Int32)] [(.ref ao), (.ref bq42), (.ref vb), (.ref vb)])) rfl rfl (hb hby d8_40)
  have st63 : own_Go p e below (T62.setTop (mkF m 43 #[rv ao, iv ud, iv (1 : Int32), iv (3 : Int32)] [(.ref bf), (.ref bq42), (.ref vb), (.ref vb)])) B0 := fun t kt => st61 t (ls62 t kt)
  have st64 : own_Go p e below (T62.setTop (mkF m 45 #[rv ao, iv ud, iv (1 : Int32), iv (3 : Int32)] [(.int (3 : Int32)), (.int (1 : Int32)), (.ref bf), (.ref bq42), (.ref vb), (.ref vb)])) B0 := fun t kt => st63 t (by
    show own_At p e below T62 m 43 #[rv ao, iv ud, iv (1 : Int32), iv (3 : Int32)] [(.ref bf), (.ref bq42), (.ref vb), (.ref vb)] _
    refine XS.iloadN X62.here hx rfl (hb hby d8_43) rfl ?_
    show own_At p e below T62 m 44 #[rv ao, iv ud, iv (1 : Int32), iv (3 : Int32)] [(.int (1 : Int32)), (.ref bf), (.ref bq42), (.ref vb), (.ref vb)] _
    refine XS.iloadN X62.here hx rfl (hb hby d8_44) rfl ?_
    show own_At p e below T62 m 45 #[rv ao, iv ud, iv (1 : Int32), iv (3 : Int32)] [(.int (3 : Int32)), (.int (1 : Int32)), (.ref bf), (.ref bq42), (.ref vb), (.ref vb)] _
    exact kt)
  have lt65_ao := f43.lt
  have lt65_bs := f49.lt
  have lt65_bn := f50.lt
  have lt65_bt := f51.lt
  have lt65_bf := f52.lt
  have lt65_t0 := f53.lt
  have lt65_f0 := f54.lt
  have lt65_vb := f55.lt
  have lt65_bq42 := Aq42.lt
  obtain ⟨_, _, ⟨T65, L65, k65, n65⟩, -, X65, ⟨Lc65, hQ65, l65, y65, z65⟩, ls65⟩ := Jvm.LawKit.callS X62 hx (y := (⟨"com/example/ranked_text_search/rankedtextsearch/MemoryTermVectors", "copy", "([[III)[I"⟩ : MethodName)) hown (mvT hZ (hw _ (List.mem_of_getElem? (i := 59) rfl))) (mvT hZ (hw _ (List.mem_of_getElem? (i := 60) rfl))) (mvT hZ (hw _ (List.mem_of_getElem? (i := 10) rfl))) (mvT hZ (hw _ (List.mem_of_getElem? (i := 61) rfl))) (by decide) (backOf (W := 3) (rm_cp_1_3 l Z a0 hw [] bf f0 F T42.heap n0 z58 f52 f54) hZ (hw _ (List.mem_of_getElem? (i := 61) rfl)) (hw _ (List.mem_of_getElem? (i := 10) rfl)) (by decide) (by decide)) (g := (mkF m 45 #[rv ao, iv ud, iv (1 : Int32), iv (3 : Int32)] [(.int (3 : Int32)), (.int (1 : Int32)), (.ref bf), (.ref bq42), (.ref vb), (.ref vb)])) rfl (by rw [hml]; rfl) (argsL := [(.ref bf), (.int (1 : Int32)), (.int (3 : Int32))]) (rest := [(.ref bq42), (.ref vb), (.ref vb)]) (lenOf own_pd4 rfl) rfl (by show 2 * 0 + _ ≤ _; exact Nat.le_of_eq rfl) (hb hby d8_45) (fun _ _ => ⟨rfl, e62, (by decide : 2 + 1 ≤ _), (by decide : 4 + 2 ≤ _)⟩)
  dsimp only [Pt.U, Pt.locs, Pt.cells, Pt.slots] at X65 l65 y65 z65 ls65 hQ65
  subst l65 y65 z65
  obtain ⟨bq65, rfl, Nq65, Kq65, g_bq65, sq65, Aq65⟩ := hQ65
  have N65 := Fr.app N42 Nq65
  have f66 := f43.keep Kq65
  have f67 := f44.keep Kq65 nin0
  have f68 := f45.keep Kq65 nin0
  have f69 := f46.keep Kq65 nin0
  have f70 := f47.keep Kq65 nin0
  have f71 := f48.keep Kq65 nin0
  have f72 := f49.keep Kq65 nin0
  have f73 := f50.keep Kq65 nin0
  have f74 := f51.keep Kq65 nin0
  have f75 := f52.keep Kq65 nin0
  have f76 := f53.keep Kq65 nin0
  have f77 := f54.keep Kq65 nin0
  have f78 := f55.keep Kq65
  have f79 := f56.keep Kq65 nin0
  have f80 := f57.keep Kq65 nin0
  have f81 := Aq42.keep Kq65 nin0
  have z82 := Nat.le_trans z58 Kq65.1
  have k83 := Keep.trans k59 Kq65 all0
  have ne_ao_bq65 : ao ≠ bq65 := Nat.ne_of_lt (Nat.lt_of_lt_of_le lt65_ao sq65)
  have ne_bs_bq65 : bs ≠ bq65 := Nat.ne_of_lt (Nat.lt_of_lt_of_le lt65_bs sq65)
  have ne_bn_bq65 : bn ≠ bq65 := Nat.ne_of_lt (Nat.lt_of_lt_of_le lt65_bn sq65)
  have ne_bt_bq65 : bt ≠ bq65 := Nat.ne_of_lt (Nat.lt_of_lt_of_le lt65_bt sq65)
  have ne_bf_bq65 : bf ≠ bq65 := Nat.ne_of_lt (Nat.lt_of_lt_of_le lt65_bf sq65)
  have ne_t0_bq65 : t0 ≠ bq65 := Nat.ne_of_lt (Nat.lt_of_lt_of_le lt65_t0 sq65)
  have ne_f0_bq65 : f0 ≠ bq65 := Nat.ne_of_lt (Nat.lt_of_lt_of_le lt65_f0 sq65)
  have ne_vb_bq65 : vb ≠ bq65 := Nat.ne_of_lt (Nat.lt_of_lt_of_le lt65_vb sq65)
  have ne_bq42_bq65 : bq42 ≠ bq65 := Nat.ne_of_lt (Nat.lt_of_lt_of_le lt65_bq42 sq65)
  have sz_bq65 : h0.size ≤ bq65 := Nat.le_trans k59.1 sq65
  have st84 : own_Go p e below (T65.setTop (mkF m 48 #[rv ao, iv ud, iv (1 : Int32), iv (3 : Int32)] [(.ref bq65), (.ref bq42), (.ref vb), (.ref vb)])) B0 := fun t kt => st64 t (ls65 t kt)
  obtain ⟨_, _, ⟨T85, L85, k85, n85⟩, -, X85, ⟨Lc85, hQ85, l85, y85, z85⟩, ls85⟩ := X65.specialBack hx (y := (⟨"com/example/ranked_text_search/rankedtextsearch/TermVectors$Vector", "<init>", "([I[I)V"⟩ : MethodName)) rfl hown (mvT hZ (hw _ (List.mem_of_getElem? (i := 63) rfl))) (mvT hZ (hw _ (List.mem_of_getElem? (i := 64) rfl))) (mvT hZ (hw _ (List.mem_of_getElem? (i := 65) rfl))) (by decide) (backOf (W := 1) (rm_vi l Z a0 hw [] vb bq42 bq65 T65.heap n0 z82 f79 f80 f78 g_vb) hZ (hw _ (List.mem_of_getElem? (i := 65) rfl)) (hw _ (List.mem_of_getElem? (i := 58) rfl)) (by decide) (by decide)) (g := (mkF m 48 #[rv ao, iv ud, iv (1 : Int32), iv (3 : Int32)] [(.ref bq65), (.ref bq42), (.ref vb), (.ref vb)])) rfl (by rw [hml]; rfl) (Steps.refl _) (a := vb) (argsL := [(.ref bq42), (.ref bq65)]) (rest := [(.ref vb)]) (lenOf own_pd5 rfl) rfl (by show 2 * 0 + _ ≤ _; exact Nat.le_of_eq rfl) (hb hby d8_48) (fun _ _ => ⟨rfl, rfl, (by decide : 3 + 0 ≤ _), (by decide : 6 + 0 ≤ _)⟩)
  dsimp only [Pt.U, Pt.locs, Pt.cells, Pt.slots] at X85 l85 y85 z85 ls85 hQ85
  subst l85 y85 z85
  obtain ⟨rfl, Nq85, Kq85, Fq85_termNumbers, Fq85_frequencies⟩ := hQ85
  have N85 := Fr.app N65 Nq85
  have f86 := f66.keep Kq85
  have f87 := f67.keep Kq85 (ninS ne_ao_vb nin0)
  have f88 := f68.keep Kq85 (ninS ne_ao_vb nin0)
  have f89 := f69.keep Kq85 (ninS ne_ao_vb nin0)
  have f90 := f70.keep Kq85 (ninS ne_ao_vb nin0)
  have f91 := f71.keep Kq85 (ninS ne_ao_vb nin0)
  have f92 := f72.keep Kq85 (ninS ne_bs_vb nin0)
  have f93 := f73.keep Kq85 (ninS ne_bn_vb nin0)
  have f94 := f74.keep Kq85 (ninS ne_bt_vb nin0)
  have f95 := f75.keep Kq85 (ninS ne_bf_vb nin0)
  have f96 := f76.keep Kq85 (ninS ne_t0_vb nin0)
  have f97 := f77.keep Kq85 (ninS ne_f0_vb nin0)
  have f98 := f78.keep Kq85
  have f101 := f81.keep Kq85 (ninS (Ne.symm ne_vb_bq42) nin0)
  have f102 := Aq65.keep Kq85 (ninS (Ne.symm ne_vb_bq65) nin0)
  have z103 := Nat.le_trans z82 Kq85.1
  have k104 := Keep.trans k83 Kq85 (allS (P := fun x => x ∈ [] ∨ h0.size ≤ x) (Or.inr sz_vb) all0)
  have st105 : own_Go p e below (T85.setTop (mkF m 51 #[rv ao, iv ud, iv (1 : Int32), iv (3 : Int32)] [(.ref vb)])) B0 := fun t kt => st84 t (ls85.trans kt)
  obtain ⟨fs, hr, hrun, hended, hW, hsame⟩ := X85.leave (v := (some (.ref vb))) (fun h => by rw [Bd.returns] at h; cases h)
  subst hB0
  refine ⟨_, _, st105 _ ?_, hrun, hended, _, _, rfl, ?_, ⟨_, rfl⟩, hW, hsame.mono (by decide) (by decide)⟩
  · exact retOut X85 hx Bd.returns rfl (Or.inr (Or.inr (Or.inr (Or.inr ⟨rfl, rfl, rfl⟩)))) (hb hby d8_51) hr
  · show Q_rm_vec_1_3 Z ao ud uf nx T F h0 n0 _ T85.heap _
    skip
    exact ⟨vb, bq42, bq65, rfl, N85, k104, f98, Fq85_termNumbers, Fq85_frequencies, f101, f102⟩
def Q_rm_vec_3_4 (Z : State) (ao : Addr) (ud : Int32) (uf : Int32) (nx : Nat → Int32) (T : Nat → Int32) (F : Nat → Int32) (h0 : Heap) (n0 : Nat) (v : Option Value) (h : Heap) (L : List Loc) : Prop := ∃ a r1 r2, v = some (.ref a) ∧ Fr n0 L ∧ Keep h0 h [] ∧ Exa Z h a "com/example/ranked_text_search/rankedtextsearch/TermVectors$Vector" ∧ Fld Z h a "com/example/ranked_text_search/rankedtextsearch/TermVectors$Vector" "termNumbers" "[I" (.ref r1) ∧ Fld Z h a "com/example/ranked_text_search/rankedtextsearch/TermVectors$Vector" "frequencies" "[I" (.ref r2) ∧ own_Av Z h r1 .int 1 (fun q => .int (T (3 + q))) ∧ own_Av Z h r2 .int 1 (fun q => .int (F (3 + q)))
set_option maxRecDepth 65536 in
set_option maxHeartbeats 40000000 in
theorem rm_vec_3_4 (l : Launch) (Z : State) (a0 : Array Value) (hw : ∀ d ∈ tables_1, d.before a0 Z = true) (ws : List Jvm.Cond) (ao : Addr) (ud : Int32) (uf : Int32) (nx : Nat → Int32) (T : Nat → Int32) (F : Nat → Int32) (h0 : Heap) (n0 : Nat) (Z0 : n0 ≤ h0.size) (V : own_VS Z h0 n0 ao uf nx T F) (hd : ud - uf = 2) :
    MetFree l (⟨"com/example/ranked_text_search/rankedtextsearch/MemoryTermVectors", "vector", "(I)Lcom/example/ranked_text_search/rankedtextsearch/TermVectors$Vector;"⟩ : MethodName) (head1 (Jvm.Cond.code (⟨"com/example/ranked_text_search/rankedtextsearch/MemoryTermVectors", "vector", "(I)Lcom/example/ranked_text_search/rankedtextsearch/TermVectors$Vector;"⟩ : MethodName) prog_50_method_5_code 4 (some (.object "com/example/ranked_text_search/rankedtextsearch/TermVectors$Vector")) :: ws) ({ frames := 3, cells := 3, slots := 4, locals := 39 } : Room)) (fun a U => a = #[(.ref ao), (.int ud)] ∧ Z.Warmed39 U.vm ∧ U.heap = h0) (fun _ _ _ _ _ => True) (fun _ U o U' => ∃ v L, o = .returned v ∧ Q_rm_vec_3_4 Z ao ud uf nx T F h0 n0 v U'.heap L ∧ FrameEnd U o U' L ({ frames := 3, cells := 3, slots := 4, locals := 39 } : Room).cells ({ frames := 3, cells := 3, slots := 4, locals := 39 } : Room).slots) := by
  refine MetFree.of_bodySF (plainFor_of_name own_pn2) hisR ?_
  intro p e s m args below meth c s₁ Bd hml0 hP hK
  obtain ⟨rfl, hZ, hh⟩ := hP
  have hx := Bd.exec
  have hby := Bd.bytes
  have hml : c.maxLocals = 4 := hml0
  have hown : s.vm.findClass "com/example/ranked_text_search/rankedtextsearch/MemoryTermVectors" = some m.cls := findClass_of_methodNamed Bd.named
  have hnm := (name_of_methodNamed Bd.named Bd.method).1
  have X0 : Stand p l e ({ frames := 3, cells := 3, slots := 4, locals := 39 } : Room) s m #[(.ref ao), (.int ud)] below meth c s₁ [] 0 0 := Stand.of_body Bd
  have e0 : s₁.heap = h0 := by rw [← hh, Bd.state]; rfl
  have N0 := Fr.nil n0
  obtain ⟨B0, hB0⟩ : ∃ B, B = (s₁.setTop (entryFrame m #[(.ref ao), (.int ud)] 4)) := ⟨_, rfl⟩
  have st0 : own_Go p e below (s₁.setTop (mkF m 0 #[rv ao, iv ud, .unset, .unset] [])) B0 := fun t k => hB0 ▸ castTop (own_ef8_RI m ao ud) k
  have k0 : Keep h0 h0 [] := Keep.refl _ _
  obtain ⟨E_ao, F_from, bs, bn, bt, bf, t0, f0, hge, nd, F_starts, F_next, F_tn, F_fq, A_bs, A_bn, A_bt, A_t0, A_bf, A_f0⟩ := V
  have g_ao := hge ao (List.mem_of_getElem? (i := 0) rfl)
  have ne_ao_bs := own_nd nd 0 1 rfl rfl (by decide)
  have ne_ao_bn := own_nd nd 0 2 rfl rfl (by decide)
  have ne_ao_bt := own_nd nd 0 3 rfl rfl (by decide)
  have ne_ao_bf := own_nd nd 0 4 rfl rfl (by decide)
  have ne_ao_t0 := own_nd nd 0 5 rfl rfl (by decide)
  have ne_ao_f0 := own_nd nd 0 6 rfl rfl (by decide)
  have g_bs := hge bs (List.mem_of_getElem? (i := 1) rfl)
  have ne_bs_bn := own_nd nd 1 2 rfl rfl (by decide)
  have ne_bs_bt := own_nd nd 1 3 rfl rfl (by decide)
  have ne_bs_bf := own_nd nd 1 4 rfl rfl (by decide)
  have ne_bs_t0 := own_nd nd 1 5 rfl rfl (by decide)
  have ne_bs_f0 := own_nd nd 1 6 rfl rfl (by decide)
  have g_bn := hge bn (List.mem_of_getElem? (i := 2) rfl)
  have ne_bn_bt := own_nd nd 2 3 rfl rfl (by decide)
  have ne_bn_bf := own_nd nd 2 4 rfl rfl (by decide)
  have ne_bn_t0 := own_nd nd 2 5 rfl rfl (by decide)
  have ne_bn_f0 := own_nd nd 2 6 rfl rfl (by decide)
  have g_bt := hge bt (List.mem_of_getElem? (i := 3) rfl)
  have ne_bt_bf := own_nd nd 3 4 rfl rfl (by decide)
  have ne_bt_t0 := own_nd nd 3 5 rfl rfl (by decide)
  have ne_bt_f0 := own_nd nd 3 6 rfl rfl (by decide)
  have g_bf := hge bf (List.mem_of_getElem? (i := 4) rfl)
  have ne_bf_t0 := own_nd nd 4 5 rfl rfl (by decide)
  have ne_bf_f0 := own_nd nd 4 6 rfl rfl (by decide)
  have g_t0 := hge t0 (List.mem_of_getElem? (i := 5) rfl)
  have ne_t0_f0 := own_nd nd 5 6 rfl rfl (by decide)
  have g_f0 := hge f0 (List.mem_of_getElem? (i := 6) rfl)
  have st1 : own_Go p e below (s₁.setTop (mkF m 1 #[rv ao, iv ud, .unset, .unset] [(.ref ao)])) B0 := fun t kt => st0 t (by
    show own_At p e below s₁ m 0 #[rv ao, iv ud, .unset, .unset] [] _
    refine XS.aloadN X0.here hx rfl (hb hby d8_0) rfl rfl ?_
    show own_At p e below s₁ m 1 #[rv ao, iv ud, .unset, .unset] [(.ref ao)] _
    exact kt)
  obtain ⟨T2, X2, e2, ls2⟩ := getF X0 hx hZ hown (host := "") (Or.inl (hw _ (List.mem_of_getElem? (i := 21) rfl))) Via.refl e0 F_starts (g := (mkF m 1 #[rv ao, iv ud, .unset, .unset] [(.ref ao)])) rfl rfl (hb hby d8_1)
  have st3 : own_Go p e below (T2.setTop (mkF m 4 #[rv ao, iv ud, .unset, .unset] [(.ref bs)])) B0 := fun t kt => st1 t (ls2 t kt)
  have st4 : own_Go p e below (T2.setTop (mkF m 6 #[rv ao, iv ud, .unset, .unset] [(.ref ao), (.int ud), (.ref bs)])) B0 := fun t kt => st3 t (by
    show own_At p e below T2 m 4 #[rv ao, iv ud, .unset, .unset] [(.ref bs)] _
    refine XS.iloadN X2.here hx rfl (hb hby d8_4) rfl ?_
    show own_At p e below T2 m 5 #[rv ao, iv ud, .unset, .unset] [(.int ud), (.ref bs)] _
    refine XS.aloadN X2.here hx rfl (hb hby d8_5) rfl rfl ?_
    show own_At p e below T2 m 6 #[rv ao, iv ud, .unset, .unset] [(.ref ao), (.int ud), (.ref bs)] _
    exact kt)
  obtain ⟨T5, X5, e5, ls5⟩ := getF X2 hx hZ hown (host := "") (Or.inl (hw _ (List.mem_of_getElem? (i := 19) rfl))) Via.refl e2 F_from (g := (mkF m 6 #[rv ao, iv ud, .unset, .unset] [(.ref ao), (.int ud), (.ref bs)])) rfl rfl (hb hby d8_6)
  have st6 : own_Go p e below (T5.setTop (mkF m 9 #[rv ao, iv ud, .unset, .unset] [(.int uf), (.int ud), (.ref bs)])) B0 := fun t kt => st4 t (ls5 t kt)
  have st7 : own_Go p e below (T5.setTop (mkF m 10 #[rv ao, iv ud, .unset, .unset] [(.int (ud - uf)), (.ref bs)])) B0 := fun t kt => st6 t (by
    show own_At p e below T5 m 9 #[rv ao, iv ud, .unset, .unset] [(.int uf), (.int ud), (.ref bs)] _
    refine XS.isub X5.here hx rfl (hb hby d8_9) rfl ?_
    show own_At p e below T5 m 10 #[rv ao, iv ud, .unset, .unset] [(.int (ud - uf)), (.ref bs)] _
    exact kt)
  have ls8 := own_iaload X5 hx hZ e5 A_bs (j := (ud - uf)) (i := 2) (by rw [hd]; decide) (by rw [hd]; decide) (by decide) (v := (.int (3 : Int32))) (rfl) (g := (mkF m 10 #[rv ao, iv ud, .unset, .unset] [(.int (ud - uf)), (.ref bs)])) rfl rfl (hb hby d8_10)
  have st9 : own_Go p e below (T5.setTop (mkF m 11 #[rv ao, iv ud, .unset, .unset] [(.int (3 : Int32))])) B0 := fun t kt => st7 t (ls8 t kt)
  have st10 : own_Go p e below (T5.setTop (mkF m 13 #[rv ao, iv ud, iv (3 : Int32), .unset] [(.ref ao)])) B0 := fun t kt => st9 t (by
    show own_At p e below T5 m 11 #[rv ao, iv ud, .unset, .unset] [(.int (3 : Int32))] _
    refine XS.istoreN X5.here hx rfl (hb hby d8_11) rfl (l' := #[rv ao, iv ud, iv (3 : Int32), .unset]) rfl ?_
    show own_At p e below T5 m 12 #[rv ao, iv ud, iv (3 : Int32), .unset] [] _
    refine XS.aloadN X5.here hx rfl (hb hby d8_12) rfl rfl ?_
    show own_At p e below T5 m 13 #[rv ao, iv ud, iv (3 : Int32), .unset] [(.ref ao)] _
    exact kt)
  obtain ⟨T11, X11, e11, ls11⟩ := getF X5 hx hZ hown (host := "") (Or.inl (hw _ (List.mem_of_getElem? (i := 21) rfl))) Via.refl e5 F_starts (g := (mkF m 13 #[rv ao, iv ud, iv (3 : Int32), .unset] [(.ref ao)])) rfl rfl (hb hby d8_13)
  have st12 : own_Go p e below (T11.setTop (mkF m 16 #[rv ao, iv ud, iv (3 : Int32), .unset] [(.ref bs)])) B0 := fun t kt => st10 t (ls11 t kt)
  have st13 : own_Go p e below (T11.setTop (mkF m 18 #[rv ao, iv ud, iv (3 : Int32), .unset] [(.ref ao), (.int ud), (.ref bs)])) B0 := fun t kt => st12 t (by
    show own_At p e below T11 m 16 #[rv ao, iv ud, iv (3 : Int32), .unset] [(.ref bs)] _
    refine XS.iloadN X11.here hx rfl (hb hby d8_16) rfl ?_
    show own_At p e below T11 m 17 #[rv ao, iv ud, iv (3 : Int32), .unset] [(.int ud), (.ref bs)] _
    refine XS.aloadN X11.here hx rfl (hb hby d8_17) rfl rfl ?_
    show own_At p e below T11 m 18 #[rv ao, iv ud, iv (3 : Int32), .unset] [(.ref ao), (.int ud), (.ref bs)] _
    exact kt)
  obtain ⟨T14, X14, e14, ls14⟩ := getF X11 hx hZ hown (host := "") (Or.inl (hw _ (List.mem_of_getElem? (i := 19) rfl))) Via.refl e11 F_from (g := (mkF m 18 #[rv ao, iv ud, iv (3 : Int32), .unset] [(.ref ao), (.int ud), (.ref bs)])) rfl rfl (hb hby d8_18)
  have st15 : own_Go p e below (T14.setTop (mkF m 21 #[rv ao, iv ud, iv (3 : Int32), .unset] [(.int uf), (.int ud), (.ref bs)])) B0 := fun t kt => st13 t (ls14 t kt)
  have st16 : own_Go p e below (T14.setTop (mkF m 24 #[rv ao, iv ud, iv (3 : Int32), .unset] [(.int ((ud - uf) + (1 : Int32))), (.ref bs)])) B0 := fun t kt => st15 t (by
    show own_At p e below T14 m 21 #[rv ao, iv ud, iv (3 : Int32), .unset] [(.int uf), (.int ud), (.ref bs)] _
    refine XS.isub X14.here hx rfl (hb hby d8_21) rfl ?_
    show own_At p e below T14 m 22 #[rv ao, iv ud, iv (3 : Int32), .unset] [(.int (ud - uf)), (.ref bs)] _
    refine XS.iconst X14.here hx rfl (hb hby d8_22) ?_
    show own_At p e below T14 m 23 #[rv ao, iv ud, iv (3 : Int32), .unset] [(.int (1 : Int32)), (.int (ud - uf)), (.ref bs)] _
    refine XS.iadd X14.here hx rfl (hb hby d8_23) rfl ?_
    show own_At p e below T14 m 24 #[rv ao, iv ud, iv (3 : Int32), .unset] [(.int ((ud - uf) + (1 : Int32))), (.ref bs)] _
    exact kt)
  have ls17 := own_iaload X14 hx hZ e14 A_bs (j := ((ud - uf) + (1 : Int32))) (i := 3) (by rw [hd]; decide) (by rw [hd]; decide) (by decide) (v := (.int (4 : Int32))) (rfl) (g := (mkF m 24 #[rv ao, iv ud, iv (3 : Int32), .unset] [(.int ((ud - uf) + (1 : Int32))), (.ref bs)])) rfl rfl (hb hby d8_24)
  have st18 : own_Go p e below (T14.setTop (mkF m 25 #[rv ao, iv ud, iv (3 : Int32), .unset] [(.int (4 : Int32))])) B0 := fun t kt => st16 t (ls17 t kt)
  have st19 : own_Go p e below (T14.setTop (mkF m 26 #[rv ao, iv ud, iv (3 : Int32), iv (4 : Int32)] [])) B0 := fun t kt => st18 t (by
    show own_At p e below T14 m 25 #[rv ao, iv ud, iv (3 : Int32), .unset] [(.int (4 : Int32))] _
    refine XS.istoreN X14.here hx rfl (hb hby d8_25) rfl (l' := #[rv ao, iv ud, iv (3 : Int32), iv (4 : Int32)]) rfl ?_
    show own_At p e below T14 m 26 #[rv ao, iv ud, iv (3 : Int32), iv (4 : Int32)] [] _
    exact kt)
  obtain ⟨T20, h20, X20, e20, E20, A20, D20, -, ls20⟩ := newO X14 hx hZ hown (hw _ (List.mem_of_getElem? (i := 56) rfl)) (hw _ (List.mem_of_getElem? (i := 57) rfl)) (hw _ (List.mem_of_getElem? (i := 58) rfl)) e14 (g := (mkF m 26 #[rv ao, iv ud, iv (3 : Int32), iv (4 : Int32)] [])) rfl (hb hby d8_26) (by decide) (by decide)
  obtain ⟨vb, g20⟩ : ∃ z, z = h0.size := ⟨_, rfl⟩
  rw [← g20] at A20 D20 ls20
  have ne_ao_vb : ao ≠ vb := Nat.ne_of_lt (Nat.lt_of_lt_of_le E_ao.lt (Nat.le_of_eq g20.symm))
  have ne_bs_vb : bs ≠ vb := Nat.ne_of_lt (Nat.lt_of_lt_of_le A_bs.lt (Nat.le_of_eq g20.symm))
  have ne_bn_vb : bn ≠ vb := Nat.ne_of_lt (Nat.lt_of_lt_of_le A_bn.lt (Nat.le_of_eq g20.symm))
  have ne_bt_vb : bt ≠ vb := Nat.ne_of_lt (Nat.lt_of_lt_of_le A_bt.lt (Nat.le_of_eq g20.symm))
  have ne_bf_vb : bf ≠ vb := Nat.ne_of_lt (Nat.lt_of_lt_of_le A_bf.lt (Nat.le_of_eq g20.symm))
  have ne_t0_vb : t0 ≠ vb := Nat.ne_of_lt (Nat.lt_of_lt_of_le A_t0.lt (Nat.le_of_eq g20.symm))
  have ne_f0_vb : f0 ≠ vb := Nat.ne_of_lt (Nat.lt_of_lt_of_le A_f0.lt (Nat.le_of_eq g20.symm))
  have g_vb : n0 ≤ vb := Nat.le_trans Z0 (Nat.le_of_eq g20.symm)
  have sz_vb : h0.size ≤ vb := Nat.le_trans k0.1 (Nat.le_of_eq g20.symm)
  have f21 := E_ao.ext E20
  have f22 := F_from.ext E20
  have f23 := F_starts.ext E20
  have f24 := F_next.ext E20
  have f25 := F_tn.ext E20
  have f26 := F_fq.ext E20
  have f27 := A_bs.ext E20
  have f28 := A_bn.ext E20
  have f29 := A_bt.ext E20
  have f30 := A_bf.ext E20
  have f31 := A_t0.ext E20
  have f32 := A_f0.ext E20
  have z33 := Nat.le_trans Z0 E20.1
  have k34 := k0.ext E20
  have f35 : Fld Z h20 vb "com/example/ranked_text_search/rankedtextsearch/TermVectors$Vector" "termNumbers" "[I" .null := D20 (Or.inr (hw _ (List.mem_of_getElem? (i := 73) rfl))) (ty := (.array .int)) (by decide)
  have f36 : Fld Z h20 vb "com/example/ranked_text_search/rankedtextsearch/TermVectors$Vector" "frequencies" "[I" .null := D20 (Or.inr (hw _ (List.mem_of_getElem? (i := 75) rfl))) (ty := (.array .int)) (by decide)
  have st37 : own_Go p e below (T20.setTop (mkF m 29 #[rv ao, iv ud, iv (3 : Int32), iv (4 : Int32)] [(.ref vb)])) B0 := fun t kt => st19 t (ls20 t kt)
  have st38 : own_Go p e below (T20.setTop (mkF m 31 #[rv ao, iv ud, iv (3 : Int32), iv (4 : Int32)] [(.ref ao), (.ref vb), (.ref vb)])) B0 := fun t kt => st37 t (by
    show own_At p e below T20 m 29 #[rv ao, iv ud, iv (3 : Int32), iv (4 : Int32)] [(.ref vb)] _
    refine XS.dup X20.here hx rfl (hb hby d8_29) rfl rfl ?_
    show own_At p e below T20 m 30 #[rv ao, iv ud, iv (3 : Int32), iv (4 : Int32)] [(.ref vb), (.ref vb)] _
    refine XS.aloadN X20.here hx rfl (hb hby d8_30) rfl rfl ?_
    show own_At p e below T20 m 31 #[rv ao, iv ud, iv (3 : Int32), iv (4 : Int32)] [(.ref ao), (.ref vb), (.ref vb)] _
    exact kt)
  obtain ⟨T39, X39, e39, ls39⟩ := getF X20 hx hZ hown (host := "") (Or.inl (hw _ (List.mem_of_getElem? (i := 31) rfl))) Via.refl e20 f25 (g := (mkF m 31 #[rv ao, iv ud, iv (3 : Int32), iv (4 : Int32)] [(.ref ao), (.ref vb), (.ref vb)])) rfl rfl (hb hby d8_31)
  have st40 : own_Go p e below (T39.setTop (mkF m 34 #[rv ao, iv ud, iv (3 : Int32), iv (4 : Int32)] [(.ref bt), (.ref vb), (.ref vb)])) B0 := fun t kt => st38 t (ls39 t kt)
  have st41 : own_Go p e below (T39.setTop (mkF m 36 #[rv ao, iv ud, iv (3 : Int32), iv (4 : Int32)] [(.int (4 : Int32)), (.int (3 : Int32)), (.ref bt), (.ref vb), (.ref vb)])) B0 := fun t kt => st40 t (by
    show own_At p e below T39 m 34 #[rv ao, iv ud, iv (3 : Int32), iv (4 : Int32)] [(.ref bt), (.ref vb), (.ref vb)] _
    refine XS.iloadN X39.here hx rfl (hb hby d8_34) rfl ?_
    show own_At p e below T39 m 35 #[rv ao, iv ud, iv (3 : Int32), iv (4 : Int32)] [(.int (3 : Int32)), (.ref bt), (.ref vb), (.ref vb)] _
    refine XS.iloadN X39.here hx rfl (hb hby d8_35) rfl ?_
    show own_At p e below T39 m 36 #[rv ao, iv ud, iv (3 : Int32), iv (4 : Int32)] [(.int (4 : Int32)), (.int (3 : Int32)), (.ref bt), (.ref vb), (.ref vb)] _
    exact kt)
  have lt42_ao := f21.lt
  have lt42_bs := f27.lt
  have lt42_bn := f28.lt
  have lt42_bt := f29.lt
  have lt42_bf := f30.lt
  have lt42_t0 := f31.lt
  have lt42_f0 := f32.lt
  have lt42_vb := A20.lt
  obtain ⟨_, _, ⟨T42, L42, k42, n42⟩, -, X42, ⟨Lc42, hQ42, l42, y42, z42⟩, ls42⟩ := Jvm.LawKit.callS X39 hx (y := (⟨"com/example/ranked_text_search/rankedtextsearch/MemoryTermVectors", "copy", "([[III)[I"⟩ : MethodName)) hown (mvT hZ (hw _ (List.mem_of_getElem? (i := 59) rfl))) (mvT hZ (hw _ (List.mem_of_getElem? (i := 60) rfl))) (mvT hZ (hw _ (List.mem_of_getElem? (i := 10) rfl))) (mvT hZ (hw _ (List.mem_of_getElem? (i := 61) rfl))) (by decide) (backOf (W := 2) (rm_cp_3_4 l Z a0 hw [] bt t0 T h20 n0 z33 f29 f31) hZ (hw _ (List.mem_of_getElem? (i := 61) rfl)) (hw _ (List.mem_of_getElem? (i := 10) rfl)) (by decide) (by decide)) (g := (mkF m 36 #[rv ao, iv ud, iv (3 : Int32), iv (4 : Int32)] [(.int (4 : Int32)), (.int (3 : Int32)), (.ref bt), (.ref vb), (.ref vb)])) rfl (by rw [hml]; rfl) (argsL := [(.ref bt), (.int (3 : Int32)), (.int (4 : Int32))]) (rest := [(.ref vb), (.ref vb)]) (lenOf own_pd4 rfl) rfl (by show 2 * 0 + _ ≤ _; exact Nat.le_of_eq rfl) (hb hby d8_36) (fun _ _ => ⟨rfl, e39, (by decide : 1 + 1 ≤ _), (by decide : 2 + 1 ≤ _)⟩)
  dsimp only [Pt.U, Pt.locs, Pt.cells, Pt.slots] at X42 l42 y42 z42 ls42 hQ42
  subst l42 y42 z42
  obtain ⟨bq42, rfl, Nq42, Kq42, g_bq42, sq42, Aq42⟩ := hQ42
  have N42 := Fr.app N0 Nq42
  have f43 := f21.keep Kq42
  have f44 := f22.keep Kq42 nin0
  have f45 := f23.keep Kq42 nin0
  have f46 := f24.keep Kq42 nin0
  have f47 := f25.keep Kq42 nin0
  have f48 := f26.keep Kq42 nin0
  have f49 := f27.keep Kq42 nin0
  have f50 := f28.keep Kq42 nin0
  have f51 := f29.keep Kq42 nin0
  have f52 := f30.keep Kq42 nin0
  have f53 := f31.keep Kq42 nin0
  have f54 := f32.keep Kq42 nin0
  have f55 := A20.keep Kq42
  have f56 := f35.keep Kq42 nin0
  have f57 := f36.keep Kq42 nin0
  have z58 := Nat.le_trans z33 Kq42.1
  have k59 := Keep.trans k34 Kq42 all0
  have ne_ao_bq42 : ao ≠ bq42 := Nat.ne_of_lt (Nat.lt_of_lt_of_le lt42_ao sq42)
  have ne_bs_bq42 : bs ≠ bq42 := Nat.ne_of_lt (Nat.lt_of_lt_of_le lt42_bs sq42)
  have ne_bn_bq42 : bn ≠ bq42 := Nat.ne_of_lt (Nat.lt_of_lt_of_le lt42_bn sq42)
  have ne_bt_bq42 : bt ≠ bq42 := Nat.ne_of_lt (Nat.lt_of_lt_of_le lt42_bt sq42)
  have ne_bf_bq42 : bf ≠ bq42 := Nat.ne_of_lt (Nat.lt_of_lt_of_le lt42_bf sq42)
  have ne_t0_bq42 : t0 ≠ bq42 := Nat.ne_of_lt (Nat.lt_of_lt_of_le lt42_t0 sq42)
  have ne_f0_bq42 : f0 ≠ bq42 := Nat.ne_of_lt (Nat.lt_of_lt_of_le lt42_f0 sq42)
  have ne_vb_bq42 : vb ≠ bq42 := Nat.ne_of_lt (Nat.lt_of_lt_of_le lt42_vb sq42)
  have sz_bq42 : h0.size ≤ bq42 := Nat.le_trans k34.1 sq42
  have st60 : own_Go p e below (T42.setTop (mkF m 39 #[rv ao, iv ud, iv (3 : Int32), iv (4 : Int32)] [(.ref bq42), (.ref vb), (.ref vb)])) B0 := fun t kt => st41 t (ls42 t kt)
  have st61 : own_Go p e below (T42.setTop (mkF m 40 #[rv ao, iv ud, iv (3 : Int32), iv (4 : Int32)] [(.ref ao), (.ref bq42), (.ref vb), (.ref vb)])) B0 := fun t kt => st60 t (by
    show own_At p e below T42 m 39 #[rv ao, iv ud, iv (3 : Int32), iv (4 : Int32)] [(.ref bq42), (.ref vb), (.ref vb)] _
    refine XS.aloadN X42.here hx rfl (hb hby d8_39) rfl rfl ?_
    show own_At p e below T42 m 40 #[rv ao, iv ud, iv (3 : Int32), iv (4 : Int32)] [(.ref ao), (.ref bq42), (.ref vb), (.ref vb)] _
    exact kt)
  obtain ⟨T62, X62, e62, ls62⟩ := getF X42 hx hZ hown (host := "") (Or.inl (hw _ (List.mem_of_getElem? (i := 33) rfl))) Via.refl rfl f48 (g := (mkF m 40 #[rv ao, iv ud, iv (3 : Int32), iv (4 : Int32)] [(.ref ao), (.ref bq42), (.ref vb), (.ref vb)])) rfl rfl (hb hby d8_40)
  have st63 : own_Go p e below (T62.setTop (mkF m 43 #[rv ao, iv ud, iv (3 : Int32), iv (4 : Int32)] [(.ref bf), (.ref bq42), (.ref vb), (.ref vb)])) B0 := fun t kt => st61 t (ls62 t kt)
  have st64 : own_Go p e below (T62.setTop (mkF m 45 #[rv ao, iv ud, iv (3 : Int32), iv (4 : Int32)] [(.int (4 : Int32)), (.int (3 : Int32)), (.ref bf), (.ref bq42), (.ref vb), (.ref vb)])) B0 := fun t kt => st63 t (by
    show own_At p e below T62 m 43 #[rv ao, iv ud, iv (3 : Int32), iv (4 : Int32)] [(.ref bf), (.ref bq42), (.ref vb), (.ref vb)] _
    refine XS.iloadN X62.here hx rfl (hb hby d8_43) rfl ?_
    show own_At p e below T62 m 44 #[rv ao, iv ud, iv (3 : Int32), iv (4 : Int32)] [(.int (3 : Int32)), (.ref bf), (.ref bq42), (.ref vb), (.ref vb)] _
    refine XS.iloadN X62.here hx rfl (hb hby d8_44) rfl ?_
    show own_At p e below T62 m 45 #[rv ao, iv ud, iv (3 : Int32), iv (4 : Int32)] [(.int (4 : Int32)), (.int (3 : Int32)), (.ref bf), (.ref bq42), (.ref vb), (.ref vb)] _
    exact kt)
  have lt65_ao := f43.lt
  have lt65_bs := f49.lt
  have lt65_bn := f50.lt
  have lt65_bt := f51.lt
  have lt65_bf := f52.lt
  have lt65_t0 := f53.lt
  have lt65_f0 := f54.lt
  have lt65_vb := f55.lt
  have lt65_bq42 := Aq42.lt
  obtain ⟨_, _, ⟨T65, L65, k65, n65⟩, -, X65, ⟨Lc65, hQ65, l65, y65, z65⟩, ls65⟩ := Jvm.LawKit.callS X62 hx (y := (⟨"com/example/ranked_text_search/rankedtextsearch/MemoryTermVectors", "copy", "([[III)[I"⟩ : MethodName)) hown (mvT hZ (hw _ (List.mem_of_getElem? (i := 59) rfl))) (mvT hZ (hw _ (List.mem_of_getElem? (i := 60) rfl))) (mvT hZ (hw _ (List.mem_of_getElem? (i := 10) rfl))) (mvT hZ (hw _ (List.mem_of_getElem? (i := 61) rfl))) (by decide) (backOf (W := 3) (rm_cp_3_4 l Z a0 hw [] bf f0 F T42.heap n0 z58 f52 f54) hZ (hw _ (List.mem_of_getElem? (i := 61) rfl)) (hw _ (List.mem_of_getElem? (i := 10) rfl)) (by decide) (by decide)) (g := (mkF m 45 #[rv ao, iv ud, iv (3 : Int32), iv (4 : Int32)] [(.int (4 : Int32)), (.int (3 : Int32)), (.ref bf), (.ref bq42), (.ref vb), (.ref vb)])) rfl (by rw [hml]; rfl) (argsL := [(.ref bf), (.int (3 : Int32)), (.int (4 : Int32))]) (rest := [(.ref bq42), (.ref vb), (.ref vb)]) (lenOf own_pd4 rfl) rfl (by show 2 * 0 + _ ≤ _; exact Nat.le_of_eq rfl) (hb hby d8_45) (fun _ _ => ⟨rfl, e62, (by decide : 2 + 1 ≤ _), (by decide : 3 + 1 ≤ _)⟩)
  dsimp only [Pt.U, Pt.locs, Pt.cells, Pt.slots] at X65 l65 y65 z65 ls65 hQ65
  subst l65 y65 z65
  obtain ⟨bq65, rfl, Nq65, Kq65, g_bq65, sq65, Aq65⟩ := hQ65
  have N65 := Fr.app N42 Nq65
  have f66 := f43.keep Kq65
  have f67 := f44.keep Kq65 nin0
  have f68 := f45.keep Kq65 nin0
  have f69 := f46.keep Kq65 nin0
  have f70 := f47.keep Kq65 nin0
  have f71 := f48.keep Kq65 nin0
  have f72 := f49.keep Kq65 nin0
  have f73 := f50.keep Kq65 nin0
  have f74 := f51.keep Kq65 nin0
  have f75 := f52.keep Kq65 nin0
  have f76 := f53.keep Kq65 nin0
  have f77 := f54.keep Kq65 nin0
  have f78 := f55.keep Kq65
  have f79 := f56.keep Kq65 nin0
  have f80 := f57.keep Kq65 nin0
  have f81 := Aq42.keep Kq65 nin0
  have z82 := Nat.le_trans z58 Kq65.1
  have k83 := Keep.trans k59 Kq65 all0
  have ne_ao_bq65 : ao ≠ bq65 := Nat.ne_of_lt (Nat.lt_of_lt_of_le lt65_ao sq65)
  have ne_bs_bq65 : bs ≠ bq65 := Nat.ne_of_lt (Nat.lt_of_lt_of_le lt65_bs sq65)
  have ne_bn_bq65 : bn ≠ bq65 := Nat.ne_of_lt (Nat.lt_of_lt_of_le lt65_bn sq65)
  have ne_bt_bq65 : bt ≠ bq65 := Nat.ne_of_lt (Nat.lt_of_lt_of_le lt65_bt sq65)
  have ne_bf_bq65 : bf ≠ bq65 := Nat.ne_of_lt (Nat.lt_of_lt_of_le lt65_bf sq65)
  have ne_t0_bq65 : t0 ≠ bq65 := Nat.ne_of_lt (Nat.lt_of_lt_of_le lt65_t0 sq65)
  have ne_f0_bq65 : f0 ≠ bq65 := Nat.ne_of_lt (Nat.lt_of_lt_of_le lt65_f0 sq65)
  have ne_vb_bq65 : vb ≠ bq65 := Nat.ne_of_lt (Nat.lt_of_lt_of_le lt65_vb sq65)
  have ne_bq42_bq65 : bq42 ≠ bq65 := Nat.ne_of_lt (Nat.lt_of_lt_of_le lt65_bq42 sq65)
  have sz_bq65 : h0.size ≤ bq65 := Nat.le_trans k59.1 sq65
  have st84 : own_Go p e below (T65.setTop (mkF m 48 #[rv ao, iv ud, iv (3 : Int32), iv (4 : Int32)] [(.ref bq65), (.ref bq42), (.ref vb), (.ref vb)])) B0 := fun t kt => st64 t (ls65 t kt)
  obtain ⟨_, _, ⟨T85, L85, k85, n85⟩, -, X85, ⟨Lc85, hQ85, l85, y85, z85⟩, ls85⟩ := X65.specialBack hx (y := (⟨"com/example/ranked_text_search/rankedtextsearch/TermVectors$Vector", "<init>", "([I[I)V"⟩ : MethodName)) rfl hown (mvT hZ (hw _ (List.mem_of_getElem? (i := 63) rfl))) (mvT hZ (hw _ (List.mem_of_getElem? (i := 64) rfl))) (mvT hZ (hw _ (List.mem_of_getElem? (i := 65) rfl))) (by decide) (backOf (W := 1) (rm_vi l Z a0 hw [] vb bq42 bq65 T65.heap n0 z82 f79 f80 f78 g_vb) hZ (hw _ (List.mem_of_getElem? (i := 65) rfl)) (hw _ (List.mem_of_getElem? (i := 58) rfl)) (by decide) (by decide)) (g := (mkF m 48 #[rv ao, iv ud, iv (3 : Int32), iv (4 : Int32)] [(.ref bq65), (.ref bq42), (.ref vb), (.ref vb)])) rfl (by rw [hml]; rfl) (Steps.refl _) (a := vb) (argsL := [(.ref bq42), (.ref bq65)]) (rest := [(.ref vb)]) (lenOf own_pd5 rfl) rfl (by show 2 * 0 + _ ≤ _; exact Nat.le_of_eq rfl) (hb hby d8_48) (fun _ _ => ⟨rfl, rfl, (by decide : 3 + 0 ≤ _), (by decide : 4 + 0 ≤ _)⟩)
  dsimp only [Pt.U, Pt.locs, Pt.cells, Pt.slots] at X85 l85 y85 z85 ls85 hQ85
  subst l85 y85 z85
  obtain ⟨rfl, Nq85, Kq85, Fq85_termNumbers, Fq85_frequencies⟩ := hQ85
  have N85 := Fr.app N65 Nq85
  have f86 := f66.keep Kq85
  have f87 := f67.keep Kq85 (ninS ne_ao_vb nin0)
  have f88 := f68.keep Kq85 (ninS ne_ao_vb nin0)
  have f89 := f69.keep Kq85 (ninS ne_ao_vb nin0)
  have f90 := f70.keep Kq85 (ninS ne_ao_vb nin0)
  have f91 := f71.keep Kq85 (ninS ne_ao_vb nin0)
  have f92 := f72.keep Kq85 (ninS ne_bs_vb nin0)
  have f93 := f73.keep Kq85 (ninS ne_bn_vb nin0)
  have f94 := f74.keep Kq85 (ninS ne_bt_vb nin0)
  have f95 := f75.keep Kq85 (ninS ne_bf_vb nin0)
  have f96 := f76.keep Kq85 (ninS ne_t0_vb nin0)
  have f97 := f77.keep Kq85 (ninS ne_f0_vb nin0)
  have f98 := f78.keep Kq85
  have f101 := f81.keep Kq85 (ninS (Ne.symm ne_vb_bq42) nin0)
  have f102 := Aq65.keep Kq85 (ninS (Ne.symm ne_vb_bq65) nin0)
  have z103 := Nat.le_trans z82 Kq85.1
  have k104 := Keep.trans k83 Kq85 (allS (P := fun x => x ∈ [] ∨ h0.size ≤ x) (Or.inr sz_vb) all0)
  have st105 : own_Go p e below (T85.setTop (mkF m 51 #[rv ao, iv ud, iv (3 : Int32), iv (4 : Int32)] [(.ref vb)])) B0 := fun t kt => st84 t (ls85.trans kt)
  obtain ⟨fs, hr, hrun, hended, hW, hsame⟩ := X85.leave (v := (some (.ref vb))) (fun h => by rw [Bd.returns] at h; cases h)
  subst hB0
  refine ⟨_, _, st105 _ ?_, hrun, hended, _, _, rfl, ?_, ⟨_, rfl⟩, hW, hsame.mono (by decide) (by decide)⟩
  · exact retOut X85 hx Bd.returns rfl (Or.inr (Or.inr (Or.inr (Or.inr ⟨rfl, rfl, rfl⟩)))) (hb hby d8_51) hr
  · show Q_rm_vec_3_4 Z ao ud uf nx T F h0 n0 _ T85.heap _
    skip
    exact ⟨vb, bq42, bq65, rfl, N85, k104, f98, Fq85_termNumbers, Fq85_frequencies, f101, f102⟩
def Q_rm_vec_16383_16385 (Z : State) (ao : Addr) (ud : Int32) (uf : Int32) (nx : Nat → Int32) (T : Nat → Int32) (F : Nat → Int32) (h0 : Heap) (n0 : Nat) (v : Option Value) (h : Heap) (L : List Loc) : Prop := ∃ a r1 r2, v = some (.ref a) ∧ Fr n0 L ∧ Keep h0 h [] ∧ Exa Z h a "com/example/ranked_text_search/rankedtextsearch/TermVectors$Vector" ∧ Fld Z h a "com/example/ranked_text_search/rankedtextsearch/TermVectors$Vector" "termNumbers" "[I" (.ref r1) ∧ Fld Z h a "com/example/ranked_text_search/rankedtextsearch/TermVectors$Vector" "frequencies" "[I" (.ref r2) ∧ own_Av Z h r1 .int 2 (fun q => .int (T (16383 + q))) ∧ own_Av Z h r2 .int 2 (fun q => .int (F (16383 + q)))
set_option maxRecDepth 65536 in
set_option maxHeartbeats 40000000 in
theorem rm_vec_16383_16385 (l : Launch) (Z : State) (a0 : Array Value) (hw : ∀ d ∈ tables_1, d.before a0 Z = true) (ws : List Jvm.Cond) (ao : Addr) (ud : Int32) (uf : Int32) (nx : Nat → Int32) (T : Nat → Int32) (F : Nat → Int32) (h0 : Heap) (n0 : Nat) (Z0 : n0 ≤ h0.size) (V : own_VB Z h0 n0 ao uf nx T F) (hd : ud - uf = 1) :
    MetFree l (⟨"com/example/ranked_text_search/rankedtextsearch/MemoryTermVectors", "vector", "(I)Lcom/example/ranked_text_search/rankedtextsearch/TermVectors$Vector;"⟩ : MethodName) (head1 (Jvm.Cond.code (⟨"com/example/ranked_text_search/rankedtextsearch/MemoryTermVectors", "vector", "(I)Lcom/example/ranked_text_search/rankedtextsearch/TermVectors$Vector;"⟩ : MethodName) prog_50_method_5_code 4 (some (.object "com/example/ranked_text_search/rankedtextsearch/TermVectors$Vector")) :: ws) ({ frames := 3, cells := 3, slots := 6, locals := 39 } : Room)) (fun a U => a = #[(.ref ao), (.int ud)] ∧ Z.Warmed39 U.vm ∧ U.heap = h0) (fun _ _ _ _ _ => True) (fun _ U o U' => ∃ v L, o = .returned v ∧ Q_rm_vec_16383_16385 Z ao ud uf nx T F h0 n0 v U'.heap L ∧ FrameEnd U o U' L ({ frames := 3, cells := 3, slots := 6, locals := 39 } : Room).cells ({ frames := 3, cells := 3, slots := 6, locals := 39 } : Room).slots) := by
  refine MetFree.of_bodySF (plainFor_of_name own_pn2) hisR ?_
  intro p e s m args below meth c s₁ Bd hml0 hP hK
  obtain ⟨rfl, hZ, hh⟩ := hP
  have hx := Bd.exec
  have hby := Bd.bytes
  have hml : c.maxLocals = 4 := hml0
  have hown : s.vm.findClass "com/example/ranked_text_search/rankedtextsearch/MemoryTermVectors" = some m.cls := findClass_of_methodNamed Bd.named
  have hnm := (name_of_methodNamed Bd.named Bd.method).1
  have X0 : Stand p l e ({ frames := 3, cells := 3, slots := 6, locals := 39 } : Room) s m #[(.ref ao), (.int ud)] below meth c s₁ [] 0 0 := Stand.of_body Bd
  have e0 : s₁.heap = h0 := by rw [← hh, Bd.state]; rfl
  have N0 := Fr.nil n0
  obtain ⟨B0, hB0⟩ : ∃ B, B = (s₁.setTop (entryFrame m #[(.ref ao), (.int ud)] 4)) := ⟨_, rfl⟩
  have st0 : own_Go p e below (s₁.setTop (mkF m 0 #[rv ao, iv ud, .unset, .unset] [])) B0 := fun t k => hB0 ▸ castTop (own_ef8_RI m ao ud) k
  have k0 : Keep h0 h0 [] := Keep.refl _ _
  obtain ⟨E_ao, F_from, bs, bn, bt, bf, t0, t1, f0, f1, hge, nd, F_starts, F_next, F_tn, F_fq, A_bs, A_bn, A_bt, A_t0, A_t1, A_bf, A_f0, A_f1⟩ := V
  have g_ao := hge ao (List.mem_of_getElem? (i := 0) rfl)
  have ne_ao_bs := own_nd nd 0 1 rfl rfl (by decide)
  have ne_ao_bn := own_nd nd 0 2 rfl rfl (by decide)
  have ne_ao_bt := own_nd nd 0 3 rfl rfl (by decide)
  have ne_ao_bf := own_nd nd 0 4 rfl rfl (by decide)
  have ne_ao_t0 := own_nd nd 0 5 rfl rfl (by decide)
  have ne_ao_t1 := own_nd nd 0 6 rfl rfl (by decide)
  have ne_ao_f0 := own_nd nd 0 7 rfl rfl (by decide)
  have ne_ao_f1 := own_nd nd 0 8 rfl rfl (by decide)
  have g_bs := hge bs (List.mem_of_getElem? (i := 1) rfl)
  have ne_bs_bn := own_nd nd 1 2 rfl rfl (by decide)
  have ne_bs_bt := own_nd nd 1 3 rfl rfl (by decide)
  have ne_bs_bf := own_nd nd 1 4 rfl rfl (by decide)
  have ne_bs_t0 := own_nd nd 1 5 rfl rfl (by decide)
  have ne_bs_t1 := own_nd nd 1 6 rfl rfl (by decide)
  have ne_bs_f0 := own_nd nd 1 7 rfl rfl (by decide)
  have ne_bs_f1 := own_nd nd 1 8 rfl rfl (by decide)
  have g_bn := hge bn (List.mem_of_getElem? (i := 2) rfl)
  have ne_bn_bt := own_nd nd 2 3 rfl rfl (by decide)
  have ne_bn_bf := own_nd nd 2 4 rfl rfl (by decide)
  have ne_bn_t0 := own_nd nd 2 5 rfl rfl (by decide)
  have ne_bn_t1 := own_nd nd 2 6 rfl rfl (by decide)
  have ne_bn_f0 := own_nd nd 2 7 rfl rfl (by decide)
  have ne_bn_f1 := own_nd nd 2 8 rfl rfl (by decide)
  have g_bt := hge bt (List.mem_of_getElem? (i := 3) rfl)
  have ne_bt_bf := own_nd nd 3 4 rfl rfl (by decide)
  have ne_bt_t0 := own_nd nd 3 5 rfl rfl (by decide)
  have ne_bt_t1 := own_nd nd 3 6 rfl rfl (by decide)
  have ne_bt_f0 := own_nd nd 3 7 rfl rfl (by decide)
  have ne_bt_f1 := own_nd nd 3 8 rfl rfl (by decide)
  have g_bf := hge bf (List.mem_of_getElem? (i := 4) rfl)
  have ne_bf_t0 := own_nd nd 4 5 rfl rfl (by decide)
  have ne_bf_t1 := own_nd nd 4 6 rfl rfl (by decide)
  have ne_bf_f0 := own_nd nd 4 7 rfl rfl (by decide)
  have ne_bf_f1 := own_nd nd 4 8 rfl rfl (by decide)
  have g_t0 := hge t0 (List.mem_of_getElem? (i := 5) rfl)
  have ne_t0_t1 := own_nd nd 5 6 rfl rfl (by decide)
  have ne_t0_f0 := own_nd nd 5 7 rfl rfl (by decide)
  have ne_t0_f1 := own_nd nd 5 8 rfl rfl (by decide)
  have g_t1 := hge t1 (List.mem_of_getElem? (i := 6) rfl)
  have ne_t1_f0 := own_nd nd 6 7 rfl rfl (by decide)
  have ne_t1_f1 := own_nd nd 6 8 rfl rfl (by decide)
  have g_f0 := hge f0 (List.mem_of_getElem? (i := 7) rfl)
  have ne_f0_f1 := own_nd nd 7 8 rfl rfl (by decide)
  have g_f1 := hge f1 (List.mem_of_getElem? (i := 8) rfl)
  have st1 : own_Go p e below (s₁.setTop (mkF m 1 #[rv ao, iv ud, .unset, .unset] [(.ref ao)])) B0 := fun t kt => st0 t (by
    show own_At p e below s₁ m 0 #[rv ao, iv ud, .unset, .unset] [] _
    refine XS.aloadN X0.here hx rfl (hb hby d8_0) rfl rfl ?_
    show own_At p e below s₁ m 1 #[rv ao, iv ud, .unset, .unset] [(.ref ao)] _
    exact kt)
  obtain ⟨T2, X2, e2, ls2⟩ := getF X0 hx hZ hown (host := "") (Or.inl (hw _ (List.mem_of_getElem? (i := 21) rfl))) Via.refl e0 F_starts (g := (mkF m 1 #[rv ao, iv ud, .unset, .unset] [(.ref ao)])) rfl rfl (hb hby d8_1)
  have st3 : own_Go p e below (T2.setTop (mkF m 4 #[rv ao, iv ud, .unset, .unset] [(.ref bs)])) B0 := fun t kt => st1 t (ls2 t kt)
  have st4 : own_Go p e below (T2.setTop (mkF m 6 #[rv ao, iv ud, .unset, .unset] [(.ref ao), (.int ud), (.ref bs)])) B0 := fun t kt => st3 t (by
    show own_At p e below T2 m 4 #[rv ao, iv ud, .unset, .unset] [(.ref bs)] _
    refine XS.iloadN X2.here hx rfl (hb hby d8_4) rfl ?_
    show own_At p e below T2 m 5 #[rv ao, iv ud, .unset, .unset] [(.int ud), (.ref bs)] _
    refine XS.aloadN X2.here hx rfl (hb hby d8_5) rfl rfl ?_
    show own_At p e below T2 m 6 #[rv ao, iv ud, .unset, .unset] [(.ref ao), (.int ud), (.ref bs)] _
    exact kt)
  obtain ⟨T5, X5, e5, ls5⟩ := getF X2 hx hZ hown (host := "") (Or.inl (hw _ (List.mem_of_getElem? (i := 19) rfl))) Via.refl e2 F_from (g := (mkF m 6 #[rv ao, iv ud, .unset, .unset] [(.ref ao), (.int ud), (.ref bs)])) rfl rfl (hb hby d8_6)
  have st6 : own_Go p e below (T5.setTop (mkF m 9 #[rv ao, iv ud, .unset, .unset] [(.int uf), (.int ud), (.ref bs)])) B0 := fun t kt => st4 t (ls5 t kt)
  have st7 : own_Go p e below (T5.setTop (mkF m 10 #[rv ao, iv ud, .unset, .unset] [(.int (ud - uf)), (.ref bs)])) B0 := fun t kt => st6 t (by
    show own_At p e below T5 m 9 #[rv ao, iv ud, .unset, .unset] [(.int uf), (.int ud), (.ref bs)] _
    refine XS.isub X5.here hx rfl (hb hby d8_9) rfl ?_
    show own_At p e below T5 m 10 #[rv ao, iv ud, .unset, .unset] [(.int (ud - uf)), (.ref bs)] _
    exact kt)
  have ls8 := own_iaload X5 hx hZ e5 A_bs (j := (ud - uf)) (i := 1) (by rw [hd]; decide) (by rw [hd]; decide) (by decide) (v := (.int (16383 : Int32))) (rfl) (g := (mkF m 10 #[rv ao, iv ud, .unset, .unset] [(.int (ud - uf)), (.ref bs)])) rfl rfl (hb hby d8_10)
  have st9 : own_Go p e below (T5.setTop (mkF m 11 #[rv ao, iv ud, .unset, .unset] [(.int (16383 : Int32))])) B0 := fun t kt => st7 t (ls8 t kt)
  have st10 : own_Go p e below (T5.setTop (mkF m 13 #[rv ao, iv ud, iv (16383 : Int32), .unset] [(.ref ao)])) B0 := fun t kt => st9 t (by
    show own_At p e below T5 m 11 #[rv ao, iv ud, .unset, .unset] [(.int (16383 : Int32))] _
    refine XS.istoreN X5.here hx rfl (hb hby d8_11) rfl (l' := #[rv ao, iv ud, iv (16383 : Int32), .unset]) rfl ?_
    show own_At p e below T5 m 12 #[rv ao, iv ud, iv (16383 : Int32), .unset] [] _
    refine XS.aloadN X5.here hx rfl (hb hby d8_12) rfl rfl ?_
    show own_At p e below T5 m 13 #[rv ao, iv ud, iv (16383 : Int32), .unset] [(.ref ao)] _
    exact kt)
  obtain ⟨T11, X11, e11, ls11⟩ := getF X5 hx hZ hown (host := "") (Or.inl (hw _ (List.mem_of_getElem? (i := 21) rfl))) Via.refl e5 F_starts (g := (mkF m 13 #[rv ao, iv ud, iv (16383 : Int32), .unset] [(.ref ao)])) rfl rfl (hb hby d8_13)
  have st12 : own_Go p e below (T11.setTop (mkF m 16 #[rv ao, iv ud, iv (16383 : Int32), .unset] [(.ref bs)])) B0 := fun t kt => st10 t (ls11 t kt)
  have st13 : own_Go p e below (T11.setTop (mkF m 18 #[rv ao, iv ud, iv (16383 : Int32), .unset] [(.ref ao), (.int ud), (.ref bs)])) B0 := fun t kt => st12 t (by
    show own_At p e below T11 m 16 #[rv ao, iv ud, iv (16383 : Int32), .unset] [(.ref bs)] _
    refine XS.iloadN X11.here hx rfl (hb hby d8_16) rfl ?_
    show own_At p e below T11 m 17 #[rv ao, iv ud, iv (16383 : Int32), .unset] [(.int ud), (.ref bs)] _
    refine XS.aloadN X11.here hx rfl (hb hby d8_17) rfl rfl ?_
    show own_At p e below T11 m 18 #[rv ao, iv ud, iv (16383 : Int32), .unset] [(.ref ao), (.int ud), (.ref bs)] _
    exact kt)
  obtain ⟨T14, X14, e14, ls14⟩ := getF X11 hx hZ hown (host := "") (Or.inl (hw _ (List.mem_of_getElem? (i := 19) rfl))) Via.refl e11 F_from (g := (mkF m 18 #[rv ao, iv ud, iv (16383 : Int32), .unset] [(.ref ao), (.int ud), (.ref bs)])) rfl rfl (hb hby d8_18)
  have st15 : own_Go p e below (T14.setTop (mkF m 21 #[rv ao, iv ud, iv (16383 : Int32), .unset] [(.int uf), (.int ud), (.ref bs)])) B0 := fun t kt => st13 t (ls14 t kt)
  have st16 : own_Go p e below (T14.setTop (mkF m 24 #[rv ao, iv ud, iv (16383 : Int32), .unset] [(.int ((ud - uf) + (1 : Int32))), (.ref bs)])) B0 := fun t kt => st15 t (by
    show own_At p e below T14 m 21 #[rv ao, iv ud, iv (16383 : Int32), .unset] [(.int uf), (.int ud), (.ref bs)] _
    refine XS.isub X14.here hx rfl (hb hby d8_21) rfl ?_
    show own_At p e below T14 m 22 #[rv ao, iv ud, iv (16383 : Int32), .unset] [(.int (ud - uf)), (.ref bs)] _
    refine XS.iconst X14.here hx rfl (hb hby d8_22) ?_
    show own_At p e below T14 m 23 #[rv ao, iv ud, iv (16383 : Int32), .unset] [(.int (1 : Int32)), (.int (ud - uf)), (.ref bs)] _
    refine XS.iadd X14.here hx rfl (hb hby d8_23) rfl ?_
    show own_At p e below T14 m 24 #[rv ao, iv ud, iv (16383 : Int32), .unset] [(.int ((ud - uf) + (1 : Int32))), (.ref bs)] _
    exact kt)
  have ls17 := own_iaload X14 hx hZ e14 A_bs (j := ((ud - uf) + (1 : Int32))) (i := 2) (by rw [hd]; decide) (by rw [hd]; decide) (by decide) (v := (.int (16385 : Int32))) (rfl) (g := (mkF m 24 #[rv ao, iv ud, iv (16383 : Int32), .unset] [(.int ((ud - uf) + (1 : Int32))), (.ref bs)])) rfl rfl (hb hby d8_24)
  have st18 : own_Go p e below (T14.setTop (mkF m 25 #[rv ao, iv ud, iv (16383 : Int32), .unset] [(.int (16385 : Int32))])) B0 := fun t kt => st16 t (ls17 t kt)
  have st19 : own_Go p e below (T14.setTop (mkF m 26 #[rv ao, iv ud, iv (16383 : Int32), iv (16385 : Int32)] [])) B0 := fun t kt => st18 t (by
    show own_At p e below T14 m 25 #[rv ao, iv ud, iv (16383 : Int32), .unset] [(.int (16385 : Int32))] _
    refine XS.istoreN X14.here hx rfl (hb hby d8_25) rfl (l' := #[rv ao, iv ud, iv (16383 : Int32), iv (16385 : Int32)]) rfl ?_
    show own_At p e below T14 m 26 #[rv ao, iv ud, iv (16383 : Int32), iv (16385 : Int32)] [] _
    exact kt)
  obtain ⟨T20, h20, X20, e20, E20, A20, D20, -, ls20⟩ := newO X14 hx hZ hown (hw _ (List.mem_of_getElem? (i := 56) rfl)) (hw _ (List.mem_of_getElem? (i := 57) rfl)) (hw _ (List.mem_of_getElem? (i := 58) rfl)) e14 (g := (mkF m 26 #[rv ao, iv ud, iv (16383 : Int32), iv (16385 : Int32)] [])) rfl (hb hby d8_26) (by decide) (by decide)
  obtain ⟨vb, g20⟩ : ∃ z, z = h0.size := ⟨_, rfl⟩
  rw [← g20] at A20 D20 ls20
  have ne_ao_vb : ao ≠ vb := Nat.ne_of_lt (Nat.lt_of_lt_of_le E_ao.lt (Nat.le_of_eq g20.symm))
  have ne_bs_vb : bs ≠ vb := Nat.ne_of_lt (Nat.lt_of_lt_of_le A_bs.lt (Nat.le_of_eq g20.symm))
  have ne_bn_vb : bn ≠ vb := Nat.ne_of_lt (Nat.lt_of_lt_of_le A_bn.lt (Nat.le_of_eq g20.symm))
  have ne_bt_vb : bt ≠ vb := Nat.ne_of_lt (Nat.lt_of_lt_of_le A_bt.lt (Nat.le_of_eq g20.symm))
  have ne_bf_vb : bf ≠ vb := Nat.ne_of_lt (Nat.lt_of_lt_of_le A_bf.lt (Nat.le_of_eq g20.symm))
  have ne_t0_vb : t0 ≠ vb := Nat.ne_of_lt (Nat.lt_of_lt_of_le A_t0.lt (Nat.le_of_eq g20.symm))
  have ne_t1_vb : t1 ≠ vb := Nat.ne_of_lt (Nat.lt_of_lt_of_le A_t1.lt (Nat.le_of_eq g20.symm))
  have ne_f0_vb : f0 ≠ vb := Nat.ne_of_lt (Nat.lt_of_lt_of_le A_f0.lt (Nat.le_of_eq g20.symm))
  have ne_f1_vb : f1 ≠ vb := Nat.ne_of_lt (Nat.lt_of_lt_of_le A_f1.lt (Nat.le_of_eq g20.symm))
  have g_vb : n0 ≤ vb := Nat.le_trans Z0 (Nat.le_of_eq g20.symm)
  have sz_vb : h0.size ≤ vb := Nat.le_trans k0.1 (Nat.le_of_eq g20.symm)
  have f21 := E_ao.ext E20
  have f22 := F_from.ext E20
  have f23 := F_starts.ext E20
  have f24 := F_next.ext E20
  have f25 := F_tn.ext E20
  have f26 := F_fq.ext E20
  have f27 := A_bs.ext E20
  have f28 := A_bn.ext E20
  have f29 := A_bt.ext E20
  have f30 := A_bf.ext E20
  have f31 := A_t0.ext E20
  have f32 := A_t1.ext E20
  have f33 := A_f0.ext E20
  have f34 := A_f1.ext E20
  have z35 := Nat.le_trans Z0 E20.1
  have k36 := k0.ext E20
  have f37 : Fld Z h20 vb "com/example/ranked_text_search/rankedtextsearch/TermVectors$Vector" "termNumbers" "[I" .null := D20 (Or.inr (hw _ (List.mem_of_getElem? (i := 73) rfl))) (ty := (.array .int)) (by decide)
  have f38 : Fld Z h20 vb "com/example/ranked_text_search/rankedtextsearch/TermVectors$Vector" "frequencies" "[I" .null := D20 (Or.inr (hw _ (List.mem_of_getElem? (i := 75) rfl))) (ty := (.array .int)) (by decide)
  have st39 : own_Go p e below (T20.setTop (mkF m 29 #[rv ao, iv ud, iv (16383 : Int32), iv (16385 : Int32)] [(.ref vb)])) B0 := fun t kt => st19 t (ls20 t kt)
  have st40 : own_Go p e below (T20.setTop (mkF m 31 #[rv ao, iv ud, iv (16383 : Int32), iv (16385 : Int32)] [(.ref ao), (.ref vb), (.ref vb)])) B0 := fun t kt => st39 t (by
    show own_At p e below T20 m 29 #[rv ao, iv ud, iv (16383 : Int32), iv (16385 : Int32)] [(.ref vb)] _
    refine XS.dup X20.here hx rfl (hb hby d8_29) rfl rfl ?_
    show own_At p e below T20 m 30 #[rv ao, iv ud, iv (16383 : Int32), iv (16385 : Int32)] [(.ref vb), (.ref vb)] _
    refine XS.aloadN X20.here hx rfl (hb hby d8_30) rfl rfl ?_
    show own_At p e below T20 m 31 #[rv ao, iv ud, iv (16383 : Int32), iv (16385 : Int32)] [(.ref ao), (.ref vb), (.ref vb)] _
    exact kt)
  obtain ⟨T41, X41, e41, ls41⟩ := getF X20 hx hZ hown (host := "") (Or.inl (hw _ (List.mem_of_getElem? (i := 31) rfl))) Via.refl e20 f25 (g := (mkF m 31 #[rv ao, iv ud, iv (16383 : Int32), iv (16385 : Int32)] [(.ref ao), (.ref vb), (.ref vb)])) rfl rfl (hb hby d8_31)
  have st42 : own_Go p e below (T41.setTop (mkF m 34 #[rv ao, iv ud, iv (16383 : Int32), iv (16385 : Int32)] [(.ref bt), (.ref vb), (.ref vb)])) B0 := fun t kt => st40 t (ls41 t kt)
  have st43 : own_Go p e below (T41.setTop (mkF m 36 #[rv ao, iv ud, iv (16383 : Int32), iv (16385 : Int32)] [(.int (16385 : Int32)), (.int (16383 : Int32)), (.ref bt), (.ref vb), (.ref vb)])) B0 := fun t kt => st42 t (by
    show own_At p e below T41 m 34 #[rv ao, iv ud, iv (16383 : Int32), iv (16385 : Int32)] [(.ref bt), (.ref vb), (.ref vb)] _
    refine XS.iloadN X41.here hx rfl (hb hby d8_34) rfl ?_
    show own_At p e below T41 m 35 #[rv ao, iv ud, iv (16383 : Int32), iv (16385 : Int32)] [(.int (16383 : Int32)), (.ref bt), (.ref vb), (.ref vb)] _
    refine XS.iloadN X41.here hx rfl (hb hby d8_35) rfl ?_
    show own_At p e below T41 m 36 #[rv ao, iv ud, iv (16383 : Int32), iv (16385 : Int32)] [(.int (16385 : Int32)), (.int (16383 : Int32)), (.ref bt), (.ref vb), (.ref vb)] _
    exact kt)
  have lt44_ao := f21.lt
  have lt44_bs := f27.lt
  have lt44_bn := f28.lt
  have lt44_bt := f29.lt
  have lt44_bf := f30.lt
  have lt44_t0 := f31.lt
  have lt44_t1 := f32.lt
  have lt44_f0 := f33.lt
  have lt44_f1 := f34.lt
  have lt44_vb := A20.lt
  obtain ⟨_, _, ⟨T44, L44, k44, n44⟩, -, X44, ⟨Lc44, hQ44, l44, y44, z44⟩, ls44⟩ := Jvm.LawKit.callS X41 hx (y := (⟨"com/example/ranked_text_search/rankedtextsearch/MemoryTermVectors", "copy", "([[III)[I"⟩ : MethodName)) hown (mvT hZ (hw _ (List.mem_of_getElem? (i := 59) rfl))) (mvT hZ (hw _ (List.mem_of_getElem? (i := 60) rfl))) (mvT hZ (hw _ (List.mem_of_getElem? (i := 10) rfl))) (mvT hZ (hw _ (List.mem_of_getElem? (i := 61) rfl))) (by decide) (backOf (W := 2) (rm_cp_16383_16385 l Z a0 hw [] bt t0 t1 T h20 n0 z35 f29 f31 f32) hZ (hw _ (List.mem_of_getElem? (i := 61) rfl)) (hw _ (List.mem_of_getElem? (i := 10) rfl)) (by decide) (by decide)) (g := (mkF m 36 #[rv ao, iv ud, iv (16383 : Int32), iv (16385 : Int32)] [(.int (16385 : Int32)), (.int (16383 : Int32)), (.ref bt), (.ref vb), (.ref vb)])) rfl (by rw [hml]; rfl) (argsL := [(.ref bt), (.int (16383 : Int32)), (.int (16385 : Int32))]) (rest := [(.ref vb), (.ref vb)]) (lenOf own_pd4 rfl) rfl (by show 2 * 0 + _ ≤ _; exact Nat.le_of_eq rfl) (hb hby d8_36) (fun _ _ => ⟨rfl, e41, (by decide : 1 + 1 ≤ _), (by decide : 2 + 2 ≤ _)⟩)
  dsimp only [Pt.U, Pt.locs, Pt.cells, Pt.slots] at X44 l44 y44 z44 ls44 hQ44
  subst l44 y44 z44
  obtain ⟨bq44, rfl, Nq44, Kq44, g_bq44, sq44, Aq44⟩ := hQ44
  have N44 := Fr.app N0 Nq44
  have f45 := f21.keep Kq44
  have f46 := f22.keep Kq44 nin0
  have f47 := f23.keep Kq44 nin0
  have f48 := f24.keep Kq44 nin0
  have f49 := f25.keep Kq44 nin0
  have f50 := f26.keep Kq44 nin0
  have f51 := f27.keep Kq44 nin0
  have f52 := f28.keep Kq44 nin0
  have f53 := f29.keep Kq44 nin0
  have f54 := f30.keep Kq44 nin0
  have f55 := f31.keep Kq44 nin0
  have f56 := f32.keep Kq44 nin0
  have f57 := f33.keep Kq44 nin0
  have f58 := f34.keep Kq44 nin0
  have f59 := A20.keep Kq44
  have f60 := f37.keep Kq44 nin0
  have f61 := f38.keep Kq44 nin0
  have z62 := Nat.le_trans z35 Kq44.1
  have k63 := Keep.trans k36 Kq44 all0
  have ne_ao_bq44 : ao ≠ bq44 := Nat.ne_of_lt (Nat.lt_of_lt_of_le lt44_ao sq44)
  have ne_bs_bq44 : bs ≠ bq44 := Nat.ne_of_lt (Nat.lt_of_lt_of_le lt44_bs sq44)
  have ne_bn_bq44 : bn ≠ bq44 := Nat.ne_of_lt (Nat.lt_of_lt_of_le lt44_bn sq44)
  have ne_bt_bq44 : bt ≠ bq44 := Nat.ne_of_lt (Nat.lt_of_lt_of_le lt44_bt sq44)
  have ne_bf_bq44 : bf ≠ bq44 := Nat.ne_of_lt (Nat.lt_of_lt_of_le lt44_bf sq44)
  have ne_t0_bq44 : t0 ≠ bq44 := Nat.ne_of_lt (Nat.lt_of_lt_of_le lt44_t0 sq44)
  have ne_t1_bq44 : t1 ≠ bq44 := Nat.ne_of_lt (Nat.lt_of_lt_of_le lt44_t1 sq44)
  have ne_f0_bq44 : f0 ≠ bq44 := Nat.ne_of_lt (Nat.lt_of_lt_of_le lt44_f0 sq44)
  have ne_f1_bq44 : f1 ≠ bq44 := Nat.ne_of_lt (Nat.lt_of_lt_of_le lt44_f1 sq44)
  have ne_vb_bq44 : vb ≠ bq44 := Nat.ne_of_lt (Nat.lt_of_lt_of_le lt44_vb sq44)
  have sz_bq44 : h0.size ≤ bq44 := Nat.le_trans k36.1 sq44
  have st64 : own_Go p e below (T44.setTop (mkF m 39 #[rv ao, iv ud, iv (16383 : Int32), iv (16385 : Int32)] [(.ref bq44), (.ref vb), (.ref vb)])) B0 := fun t kt => st43 t (ls44 t kt)
  have st65 : own_Go p e below (T44.setTop (mkF m 40 #[rv ao, iv ud, iv (16383 : Int32), iv (16385 : Int32)] [(.ref ao), (.ref bq44), (.ref vb), (.ref vb)])) B0 := fun t kt => st64 t (by
    show own_At p e below T44 m 39 #[rv ao, iv ud, iv (16383 : Int32), iv (16385 : Int32)] [(.ref bq44), (.ref vb), (.ref vb)] _
    refine XS.aloadN X44.here hx rfl (hb hby d8_39) rfl rfl ?_
    show own_At p e below T44 m 40 #[rv ao, iv ud, iv (16383 : Int32), iv (16385 : Int32)] [(.ref ao), (.ref bq44), (.ref vb), (.ref vb)] _
    exact kt)
  obtain ⟨T66, X66, e66, ls66⟩ := getF X44 hx hZ hown (host := "") (Or.inl (hw _ (List.mem_of_getElem? (i := 33) rfl))) Via.refl rfl f50 (g := (mkF m 40 #[rv ao, iv ud, iv (16383 : Int32), iv (16385 : Int32)] [(.ref ao), (.ref bq44), (.ref vb), (.ref vb)])) rfl rfl (hb hby d8_40)
  have st67 : own_Go p e below (T66.setTop (mkF m 43 #[rv ao, iv ud, iv (16383 : Int32), iv (16385 : Int32)] [(.ref bf), (.ref bq44), (.ref vb), (.ref vb)])) B0 := fun t kt => st65 t (ls66 t kt)
  have st68 : own_Go p e below (T66.setTop (mkF m 45 #[rv ao, iv ud, iv (16383 : Int32), iv (16385 : Int32)] [(.int (16385 : Int32)), (.int (16383 : Int32)), (.ref bf), (.ref bq44), (.ref vb), (.ref vb)])) B0 := fun t kt => st67 t (by
    show own_At p e below T66 m 43 #[rv ao, iv ud, iv (16383 : Int32), iv (16385 : Int32)] [(.ref bf), (.ref bq44), (.ref vb), (.ref vb)] _
    refine XS.iloadN X66.here hx rfl (hb hby d8_43) rfl ?_
    show own_At p e below T66 m 44 #[rv ao, iv ud, iv (16383 : Int32), iv (16385 : Int32)] [(.int (16383 : Int32)), (.ref bf), (.ref bq44), (.ref vb), (.ref vb)] _
    refine XS.iloadN X66.here hx rfl (hb hby d8_44) rfl ?_
    show own_At p e below T66 m 45 #[rv ao, iv ud, iv (16383 : Int32), iv (16385 : Int32)] [(.int (16385 : Int32)), (.int (16383 : Int32)), (.ref bf), (.ref bq44), (.ref vb), (.ref vb)] _
    exact kt)
  have lt69_ao := f45.lt
  have lt69_bs := f51.lt
  have lt69_bn := f52.lt
  have lt69_bt := f53.lt
  have lt69_bf := f54.lt
  have lt69_t0 := f55.lt
  have lt69_t1 := f56.lt
  have lt69_f0 := f57.lt
  have lt69_f1 := f58.lt
  have lt69_vb := f59.lt
  have lt69_bq44 := Aq44.lt
  obtain ⟨_, _, ⟨T69, L69, k69, n69⟩, -, X69, ⟨Lc69, hQ69, l69, y69, z69⟩, ls69⟩ := Jvm.LawKit.callS X66 hx (y := (⟨"com/example/ranked_text_search/rankedtextsearch/MemoryTermVectors", "copy", "([[III)[I"⟩ : MethodName)) hown (mvT hZ (hw _ (List.mem_of_getElem? (i := 59) rfl))) (mvT hZ (hw _ (List.mem_of_getElem? (i := 60) rfl))) (mvT hZ (hw _ (List.mem_of_getElem? (i := 10) rfl))) (mvT hZ (hw _ (List.mem_of_getElem? (i := 61) rfl))) (by decide) (backOf (W := 3) (rm_cp_16383_16385 l Z a0 hw [] bf f0 f1 F T44.heap n0 z62 f54 f57 f58) hZ (hw _ (List.mem_of_getElem? (i := 61) rfl)) (hw _ (List.mem_of_getElem? (i := 10) rfl)) (by decide) (by decide)) (g := (mkF m 45 #[rv ao, iv ud, iv (16383 : Int32), iv (16385 : Int32)] [(.int (16385 : Int32)), (.int (16383 : Int32)), (.ref bf), (.ref bq44), (.ref vb), (.ref vb)])) rfl (by rw [hml]; rfl) (argsL := [(.ref bf), (.int (16383 : Int32)), (.int (16385 : Int32))]) (rest := [(.ref bq44), (.ref vb), (.ref vb)]) (lenOf own_pd4 rfl) rfl (by show 2 * 0 + _ ≤ _; exact Nat.le_of_eq rfl) (hb hby d8_45) (fun _ _ => ⟨rfl, e66, (by decide : 2 + 1 ≤ _), (by decide : 4 + 2 ≤ _)⟩)
  dsimp only [Pt.U, Pt.locs, Pt.cells, Pt.slots] at X69 l69 y69 z69 ls69 hQ69
  subst l69 y69 z69
  obtain ⟨bq69, rfl, Nq69, Kq69, g_bq69, sq69, Aq69⟩ := hQ69
  have N69 := Fr.app N44 Nq69
  have f70 := f45.keep Kq69
  have f71 := f46.keep Kq69 nin0
  have f72 := f47.keep Kq69 nin0
  have f73 := f48.keep Kq69 nin0
  have f74 := f49.keep Kq69 nin0
  have f75 := f50.keep Kq69 nin0
  have f76 := f51.keep Kq69 nin0
  have f77 := f52.keep Kq69 nin0
  have f78 := f53.keep Kq69 nin0
  have f79 := f54.keep Kq69 nin0
  have f80 := f55.keep Kq69 nin0
  have f81 := f56.keep Kq69 nin0
  have f82 := f57.keep Kq69 nin0
  have f83 := f58.keep Kq69 nin0
  have f84 := f59.keep Kq69
  have f85 := f60.keep Kq69 nin0
  have f86 := f61.keep Kq69 nin0
  have f87 := Aq44.keep Kq69 nin0
  have z88 := Nat.le_trans z62 Kq69.1
  have k89 := Keep.trans k63 Kq69 all0
  have ne_ao_bq69 : ao ≠ bq69 := Nat.ne_of_lt (Nat.lt_of_lt_of_le lt69_ao sq69)
  have ne_bs_bq69 : bs ≠ bq69 := Nat.ne_of_lt (Nat.lt_of_lt_of_le lt69_bs sq69)
  have ne_bn_bq69 : bn ≠ bq69 := Nat.ne_of_lt (Nat.lt_of_lt_of_le lt69_bn sq69)
  have ne_bt_bq69 : bt ≠ bq69 := Nat.ne_of_lt (Nat.lt_of_lt_of_le lt69_bt sq69)
  have ne_bf_bq69 : bf ≠ bq69 := Nat.ne_of_lt (Nat.lt_of_lt_of_le lt69_bf sq69)
  have ne_t0_bq69 : t0 ≠ bq69 := Nat.ne_of_lt (Nat.lt_of_lt_of_le lt69_t0 sq69)
  have ne_t1_bq69 : t1 ≠ bq69 := Nat.ne_of_lt (Nat.lt_of_lt_of_le lt69_t1 sq69)
  have ne_f0_bq69 : f0 ≠ bq69 := Nat.ne_of_lt (Nat.lt_of_lt_of_le lt69_f0 sq69)
  have ne_f1_bq69 : f1 ≠ bq69 := Nat.ne_of_lt (Nat.lt_of_lt_of_le lt69_f1 sq69)
  have ne_vb_bq69 : vb ≠ bq69 := Nat.ne_of_lt (Nat.lt_of_lt_of_le lt69_vb sq69)
  have ne_bq44_bq69 : bq44 ≠ bq69 := Nat.ne_of_lt (Nat.lt_of_lt_of_le lt69_bq44 sq69)
  have sz_bq69 : h0.size ≤ bq69 := Nat.le_trans k63.1 sq69
  have st90 : own_Go p e below (T69.setTop (mkF m 48 #[rv ao, iv ud, iv (16383 : Int32), iv (16385 : Int32)] [(.ref bq69), (.ref bq44), (.ref vb), (.ref vb)])) B0 := fun t kt => st68 t (ls69 t kt)
  obtain ⟨_, _, ⟨T91, L91, k91, n91⟩, -, X91, ⟨Lc91, hQ91, l91, y91, z91⟩, ls91⟩ := X69.specialBack hx (y := (⟨"com/example/ranked_text_search/rankedtextsearch/TermVectors$Vector", "<init>", "([I[I)V"⟩ : MethodName)) rfl hown (mvT hZ (hw _ (List.mem_of_getElem? (i := 63) rfl))) (mvT hZ (hw _ (List.mem_of_getElem? (i := 64) rfl))) (mvT hZ (hw _ (List.mem_of_getElem? (i := 65) rfl))) (by decide) (backOf (W := 1) (rm_vi l Z a0 hw [] vb bq44 bq69 T69.heap n0 z88 f85 f86 f84 g_vb) hZ (hw _ (List.mem_of_getElem? (i := 65) rfl)) (hw _ (List.mem_of_getElem? (i := 58) rfl)) (by decide) (by decide)) (g := (mkF m 48 #[rv ao, iv ud, iv (16383 : Int32), iv (16385 : Int32)] [(.ref bq69), (.ref bq44), (.ref vb), (.ref vb)])) rfl (by rw [hml]; rfl) (Steps.refl _) (a := vb) (argsL := [(.ref bq44), (.ref bq69)]) (rest := [(.ref vb)]) (lenOf own_pd5 rfl) rfl (by show 2 * 0 + _ ≤ _; exact Nat.le_of_eq rfl) (hb hby d8_48) (fun _ _ => ⟨rfl, rfl, (by decide : 3 + 0 ≤ _), (by decide : 6 + 0 ≤ _)⟩)
  dsimp only [Pt.U, Pt.locs, Pt.cells, Pt.slots] at X91 l91 y91 z91 ls91 hQ91
  subst l91 y91 z91
  obtain ⟨rfl, Nq91, Kq91, Fq91_termNumbers, Fq91_frequencies⟩ := hQ91
  have N91 := Fr.app N69 Nq91
  have f92 := f70.keep Kq91
  have f93 := f71.keep Kq91 (ninS ne_ao_vb nin0)
  have f94 := f72.keep Kq91 (ninS ne_ao_vb nin0)
  have f95 := f73.keep Kq91 (ninS ne_ao_vb nin0)
  have f96 := f74.keep Kq91 (ninS ne_ao_vb nin0)
  have f97 := f75.keep Kq91 (ninS ne_ao_vb nin0)
  have f98 := f76.keep Kq91 (ninS ne_bs_vb nin0)
  have f99 := f77.keep Kq91 (ninS ne_bn_vb nin0)
  have f100 := f78.keep Kq91 (ninS ne_bt_vb nin0)
  have f101 := f79.keep Kq91 (ninS ne_bf_vb nin0)
  have f102 := f80.keep Kq91 (ninS ne_t0_vb nin0)
  have f103 := f81.keep Kq91 (ninS ne_t1_vb nin0)
  have f104 := f82.keep Kq91 (ninS ne_f0_vb nin0)
  have f105 := f83.keep Kq91 (ninS ne_f1_vb nin0)
  have f106 := f84.keep Kq91
  have f109 := f87.keep Kq91 (ninS (Ne.symm ne_vb_bq44) nin0)
  have f110 := Aq69.keep Kq91 (ninS (Ne.symm ne_vb_bq69) nin0)
  have z111 := Nat.le_trans z88 Kq91.1
  have k112 := Keep.trans k89 Kq91 (allS (P := fun x => x ∈ [] ∨ h0.size ≤ x) (Or.inr sz_vb) all0)
  have st113 : own_Go p e below (T91.setTop (mkF m 51 #[rv ao, iv ud, iv (16383 : Int32), iv (16385 : Int32)] [(.ref vb)])) B0 := fun t kt => st90 t (ls91.trans kt)
  obtain ⟨fs, hr, hrun, hended, hW, hsame⟩ := X91.leave (v := (some (.ref vb))) (fun h => by rw [Bd.returns] at h; cases h)
  subst hB0
  refine ⟨_, _, st113 _ ?_, hrun, hended, _, _, rfl, ?_, ⟨_, rfl⟩, hW, hsame.mono (by decide) (by decide)⟩
  · exact retOut X91 hx Bd.returns rfl (Or.inr (Or.inr (Or.inr (Or.inr ⟨rfl, rfl, rfl⟩)))) (hb hby d8_51) hr
  · show Q_rm_vec_16383_16385 Z ao ud uf nx T F h0 n0 _ T91.heap _
    skip
    exact ⟨vb, bq44, bq69, rfl, N91, k112, f106, Fq91_termNumbers, Fq91_frequencies, f109, f110⟩
def Q_rm_vec_16385_16386 (Z : State) (ao : Addr) (ud : Int32) (uf : Int32) (nx : Nat → Int32) (T : Nat → Int32) (F : Nat → Int32) (h0 : Heap) (n0 : Nat) (v : Option Value) (h : Heap) (L : List Loc) : Prop := ∃ a r1 r2, v = some (.ref a) ∧ Fr n0 L ∧ Keep h0 h [] ∧ Exa Z h a "com/example/ranked_text_search/rankedtextsearch/TermVectors$Vector" ∧ Fld Z h a "com/example/ranked_text_search/rankedtextsearch/TermVectors$Vector" "termNumbers" "[I" (.ref r1) ∧ Fld Z h a "com/example/ranked_text_search/rankedtextsearch/TermVectors$Vector" "frequencies" "[I" (.ref r2) ∧ own_Av Z h r1 .int 1 (fun q => .int (T (16385 + q))) ∧ own_Av Z h r2 .int 1 (fun q => .int (F (16385 + q)))
set_option maxRecDepth 65536 in
set_option maxHeartbeats 40000000 in
theorem rm_vec_16385_16386 (l : Launch) (Z : State) (a0 : Array Value) (hw : ∀ d ∈ tables_1, d.before a0 Z = true) (ws : List Jvm.Cond) (ao : Addr) (ud : Int32) (uf : Int32) (nx : Nat → Int32) (T : Nat → Int32) (F : Nat → Int32) (h0 : Heap) (n0 : Nat) (Z0 : n0 ≤ h0.size) (V : own_VB Z h0 n0 ao uf nx T F) (hd : ud - uf = 2) :
    MetFree l (⟨"com/example/ranked_text_search/rankedtextsearch/MemoryTermVectors", "vector", "(I)Lcom/example/ranked_text_search/rankedtextsearch/TermVectors$Vector;"⟩ : MethodName) (head1 (Jvm.Cond.code (⟨"com/example/ranked_text_search/rankedtextsearch/MemoryTermVectors", "vector", "(I)Lcom/example/ranked_text_search/rankedtextsearch/TermVectors$Vector;"⟩ : MethodName) prog_50_method_5_code 4 (some (.object "com/example/ranked_text_search/rankedtextsearch/TermVectors$Vector")) :: ws) ({ frames := 3, cells := 3, slots := 4, locals := 39 } : Room)) (fun a U => a = #[(.ref ao), (.int ud)] ∧ Z.Warmed39 U.vm ∧ U.heap = h0) (fun _ _ _ _ _ => True) (fun _ U o U' => ∃ v L, o = .returned v ∧ Q_rm_vec_16385_16386 Z ao ud uf nx T F h0 n0 v U'.heap L ∧ FrameEnd U o U' L ({ frames := 3, cells := 3, slots := 4, locals := 39 } : Room).cells ({ frames := 3, cells := 3, slots := 4, locals := 39 } : Room).slots) := by
  refine MetFree.of_bodySF (plainFor_of_name own_pn2) hisR ?_
  intro p e s m args below meth c s₁ Bd hml0 hP hK
  obtain ⟨rfl, hZ, hh⟩ := hP
  have hx := Bd.exec
  have hby := Bd.bytes
  have hml : c.maxLocals = 4 := hml0
  have hown : s.vm.findClass "com/example/ranked_text_search/rankedtextsearch/MemoryTermVectors" = some m.cls := findClass_of_methodNamed Bd.named
  have hnm := (name_of_methodNamed Bd.named Bd.method).1
  have X0 : Stand p l e ({ frames := 3, cells := 3, slots := 4, locals := 39 } : Room) s m #[(.ref ao), (.int ud)] below meth c s₁ [] 0 0 := Stand.of_body Bd
  have e0 : s₁.heap = h0 := by rw [← hh, Bd.state]; rfl
  have N0 := Fr.nil n0
  obtain ⟨B0, hB0⟩ : ∃ B, B = (s₁.setTop (entryFrame m #[(.ref ao), (.int ud)] 4)) := ⟨_, rfl⟩
  have st0 : own_Go p e below (s₁.setTop (mkF m 0 #[rv ao, iv ud, .unset, .unset] [])) B0 := fun t k => hB0 ▸ castTop (own_ef8_RI m ao ud) k
  have k0 : Keep h0 h0 [] := Keep.refl _ _
  obtain ⟨E_ao, F_from, bs, bn, bt, bf, t0, t1, f0, f1, hge, nd, F_starts, F_next, F_tn, F_fq, A_bs, A_bn, A_bt, A_t0, A_t1, A_bf, A_f0, A_f1⟩ := V
  have g_ao := hge ao (List.mem_of_getElem? (i := 0) rfl)
  have ne_ao_bs := own_nd nd 0 1 rfl rfl (by decide)
  have ne_ao_bn := own_nd nd 0 2 rfl rfl (by decide)
  have ne_ao_bt := own_nd nd 0 3 rfl rfl (by decide)
  have ne_ao_bf := own_nd nd 0 4 rfl rfl (by decide)
  have ne_ao_t0 := own_nd nd 0 5 rfl rfl (by decide)
  have ne_ao_t1 := own_nd nd 0 6 rfl rfl (by decide)
  have ne_ao_f0 := own_nd nd 0 7 rfl rfl (by decide)
  have ne_ao_f1 := own_nd nd 0 8 rfl rfl (by decide)
  have g_bs := hge bs (List.mem_of_getElem? (i := 1) rfl)
  have ne_bs_bn := own_nd nd 1 2 rfl rfl (by decide)
  have ne_bs_bt := own_nd nd 1 3 rfl rfl (by decide)
  have ne_bs_bf := own_nd nd 1 4 rfl rfl (by decide)
  have ne_bs_t0 := own_nd nd 1 5 rfl rfl (by decide)
  have ne_bs_t1 := own_nd nd 1 6 rfl rfl (by decide)
  have ne_bs_f0 := own_nd nd 1 7 rfl rfl (by decide)
  have ne_bs_f1 := own_nd nd 1 8 rfl rfl (by decide)
  have g_bn := hge bn (List.mem_of_getElem? (i := 2) rfl)
  have ne_bn_bt := own_nd nd 2 3 rfl rfl (by decide)
  have ne_bn_bf := own_nd nd 2 4 rfl rfl (by decide)
  have ne_bn_t0 := own_nd nd 2 5 rfl rfl (by decide)
  have ne_bn_t1 := own_nd nd 2 6 rfl rfl (by decide)
  have ne_bn_f0 := own_nd nd 2 7 rfl rfl (by decide)
  have ne_bn_f1 := own_nd nd 2 8 rfl rfl (by decide)
  have g_bt := hge bt (List.mem_of_getElem? (i := 3) rfl)
  have ne_bt_bf := own_nd nd 3 4 rfl rfl (by decide)
  have ne_bt_t0 := own_nd nd 3 5 rfl rfl (by decide)
  have ne_bt_t1 := own_nd nd 3 6 rfl rfl (by decide)
  have ne_bt_f0 := own_nd nd 3 7 rfl rfl (by decide)
  have ne_bt_f1 := own_nd nd 3 8 rfl rfl (by decide)
  have g_bf := hge bf (List.mem_of_getElem? (i := 4) rfl)
  have ne_bf_t0 := own_nd nd 4 5 rfl rfl (by decide)
  have ne_bf_t1 := own_nd nd 4 6 rfl rfl (by decide)
  have ne_bf_f0 := own_nd nd 4 7 rfl rfl (by decide)
  have ne_bf_f1 := own_nd nd 4 8 rfl rfl (by decide)
  have g_t0 := hge t0 (List.mem_of_getElem? (i := 5) rfl)
  have ne_t0_t1 := own_nd nd 5 6 rfl rfl (by decide)
  have ne_t0_f0 := own_nd nd 5 7 rfl rfl (by decide)
  have ne_t0_f1 := own_nd nd 5 8 rfl rfl (by decide)
  have g_t1 := hge t1 (List.mem_of_getElem? (i := 6) rfl)
  have ne_t1_f0 := own_nd nd 6 7 rfl rfl (by decide)
  have ne_t1_f1 := own_nd nd 6 8 rfl rfl (by decide)
  have g_f0 := hge f0 (List.mem_of_getElem? (i := 7) rfl)
  have ne_f0_f1 := own_nd nd 7 8 rfl rfl (by decide)
  have g_f1 := hge f1 (List.mem_of_getElem? (i := 8) rfl)
  have st1 : own_Go p e below (s₁.setTop (mkF m 1 #[rv ao, iv ud, .unset, .unset] [(.ref ao)])) B0 := fun t kt => st0 t (by
    show own_At p e below s₁ m 0 #[rv ao, iv ud, .unset, .unset] [] _
    refine XS.aloadN X0.here hx rfl (hb hby d8_0) rfl rfl ?_
    show own_At p e below s₁ m 1 #[rv ao, iv ud, .unset, .unset] [(.ref ao)] _
    exact kt)
  obtain ⟨T2, X2, e2, ls2⟩ := getF X0 hx hZ hown (host := "") (Or.inl (hw _ (List.mem_of_getElem? (i := 21) rfl))) Via.refl e0 F_starts (g := (mkF m 1 #[rv ao, iv ud, .unset, .unset] [(.ref ao)])) rfl rfl (hb hby d8_1)
  have st3 : own_Go p e below (T2.setTop (mkF m 4 #[rv ao, iv ud, .unset, .unset] [(.ref bs)])) B0 := fun t kt => st1 t (ls2 t kt)
  have st4 : own_Go p e below (T2.setTop (mkF m 6 #[rv ao, iv ud, .unset, .unset] [(.ref ao), (.int ud), (.ref bs)])) B0 := fun t kt => st3 t (by
    show own_At p e below T2 m 4 #[rv ao, iv ud, .unset, .unset] [(.ref bs)] _
    refine XS.iloadN X2.here hx rfl (hb hby d8_4) rfl ?_
    show own_At p e below T2 m 5 #[rv ao, iv ud, .unset, .unset] [(.int ud), (.ref bs)] _
    refine XS.aloadN X2.here hx rfl (hb hby d8_5) rfl rfl ?_
    show own_At p e below T2 m 6 #[rv ao, iv ud, .unset, .unset] [(.ref ao), (.int ud), (.ref bs)] _
    exact kt)
  obtain ⟨T5, X5, e5, ls5⟩ := getF X2 hx hZ hown (host := "") (Or.inl (hw _ (List.mem_of_getElem? (i := 19) rfl))) Via.refl e2 F_from (g := (mkF m 6 #[rv ao, iv ud, .unset, .unset] [(.ref ao), (.int ud), (.ref bs)])) rfl rfl (hb hby d8_6)
  have st6 : own_Go p e below (T5.setTop (mkF m 9 #[rv ao, iv ud, .unset, .unset] [(.int uf), (.int ud), (.ref bs)])) B0 := fun t kt => st4 t (ls5 t kt)
  have st7 : own_Go p e below (T5.setTop (mkF m 10 #[rv ao, iv ud, .unset, .unset] [(.int (ud - uf)), (.ref bs)])) B0 := fun t kt => st6 t (by
    show own_At p e below T5 m 9 #[rv ao, iv ud, .unset, .unset] [(.int uf), (.int ud), (.ref bs)] _
    refine XS.isub X5.here hx rfl (hb hby d8_9) rfl ?_
    show own_At p e below T5 m 10 #[rv ao, iv ud, .unset, .unset] [(.int (ud - uf)), (.ref bs)] _
    exact kt)
  have ls8 := own_iaload X5 hx hZ e5 A_bs (j := (ud - uf)) (i := 2) (by rw [hd]; decide) (by rw [hd]; decide) (by decide) (v := (.int (16385 : Int32))) (rfl) (g := (mkF m 10 #[rv ao, iv ud, .unset, .unset] [(.int (ud - uf)), (.ref bs)])) rfl rfl (hb hby d8_10)
  have st9 : own_Go p e below (T5.setTop (mkF m 11 #[rv ao, iv ud, .unset, .unset] [(.int (16385 : Int32))])) B0 := fun t kt => st7 t (ls8 t kt)
  have st10 : own_Go p e below (T5.setTop (mkF m 13 #[rv ao, iv ud, iv (16385 : Int32), .unset] [(.ref ao)])) B0 := fun t kt => st9 t (by
    show own_At p e below T5 m 11 #[rv ao, iv ud, .unset, .unset] [(.int (16385 : Int32))] _
    refine XS.istoreN X5.here hx rfl (hb hby d8_11) rfl (l' := #[rv ao, iv ud, iv (16385 : Int32), .unset]) rfl ?_
    show own_At p e below T5 m 12 #[rv ao, iv ud, iv (16385 : Int32), .unset] [] _
    refine XS.aloadN X5.here hx rfl (hb hby d8_12) rfl rfl ?_
    show own_At p e below T5 m 13 #[rv ao, iv ud, iv (16385 : Int32), .unset] [(.ref ao)] _
    exact kt)
  obtain ⟨T11, X11, e11, ls11⟩ := getF X5 hx hZ hown (host := "") (Or.inl (hw _ (List.mem_of_getElem? (i := 21) rfl))) Via.refl e5 F_starts (g := (mkF m 13 #[rv ao, iv ud, iv (16385 : Int32), .unset] [(.ref ao)])) rfl rfl (hb hby d8_13)
  have st12 : own_Go p e below (T11.setTop (mkF m 16 #[rv ao, iv ud, iv (16385 : Int32), .unset] [(.ref bs)])) B0 := fun t kt => st10 t (ls11 t kt)
  have st13 : own_Go p e below (T11.setTop (mkF m 18 #[rv ao, iv ud, iv (16385 : Int32), .unset] [(.ref ao), (.int ud), (.ref bs)])) B0 := fun t kt => st12 t (by
    show own_At p e below T11 m 16 #[rv ao, iv ud, iv (16385 : Int32), .unset] [(.ref bs)] _
    refine XS.iloadN X11.here hx rfl (hb hby d8_16) rfl ?_
    show own_At p e below T11 m 17 #[rv ao, iv ud, iv (16385 : Int32), .unset] [(.int ud), (.ref bs)] _
    refine XS.aloadN X11.here hx rfl (hb hby d8_17) rfl rfl ?_
    show own_At p e below T11 m 18 #[rv ao, iv ud, iv (16385 : Int32), .unset] [(.ref ao), (.int ud), (.ref bs)] _
    exact kt)
  obtain ⟨T14, X14, e14, ls14⟩ := getF X11 hx hZ hown (host := "") (Or.inl (hw _ (List.mem_of_getElem? (i := 19) rfl))) Via.refl e11 F_from (g := (mkF m 18 #[rv ao, iv ud, iv (16385 : Int32), .unset] [(.ref ao), (.int ud), (.ref bs)])) rfl rfl (hb hby d8_18)
  have st15 : own_Go p e below (T14.setTop (mkF m 21 #[rv ao, iv ud, iv (16385 : Int32), .unset] [(.int uf), (.int ud), (.ref bs)])) B0 := fun t kt => st13 t (ls14 t kt)
  have st16 : own_Go p e below (T14.setTop (mkF m 24 #[rv ao, iv ud, iv (16385 : Int32), .unset] [(.int ((ud - uf) + (1 : Int32))), (.ref bs)])) B0 := fun t kt => st15 t (by
    show own_At p e below T14 m 21 #[rv ao, iv ud, iv (16385 : Int32), .unset] [(.int uf), (.int ud), (.ref bs)] _
    refine XS.isub X14.here hx rfl (hb hby d8_21) rfl ?_
    show own_At p e below T14 m 22 #[rv ao, iv ud, iv (16385 : Int32), .unset] [(.int (ud - uf)), (.ref bs)] _
    refine XS.iconst X14.here hx rfl (hb hby d8_22) ?_
    show own_At p e below T14 m 23 #[rv ao, iv ud, iv (16385 : Int32), .unset] [(.int (1 : Int32)), (.int (ud - uf)), (.ref bs)] _
    refine XS.iadd X14.here hx rfl (hb hby d8_23) rfl ?_
    show own_At p e below T14 m 24 #[rv ao, iv ud, iv (16385 : Int32), .unset] [(.int ((ud - uf) + (1 : Int32))), (.ref bs)] _
    exact kt)
  have ls17 := own_iaload X14 hx hZ e14 A_bs (j := ((ud - uf) + (1 : Int32))) (i := 3) (by rw [hd]; decide) (by rw [hd]; decide) (by decide) (v := (.int (16386 : Int32))) (rfl) (g := (mkF m 24 #[rv ao, iv ud, iv (16385 : Int32), .unset] [(.int ((ud - uf) + (1 : Int32))), (.ref bs)])) rfl rfl (hb hby d8_24)
  have st18 : own_Go p e below (T14.setTop (mkF m 25 #[rv ao, iv ud, iv (16385 : Int32), .unset] [(.int (16386 : Int32))])) B0 := fun t kt => st16 t (ls17 t kt)
  have st19 : own_Go p e below (T14.setTop (mkF m 26 #[rv ao, iv ud, iv (16385 : Int32), iv (16386 : Int32)] [])) B0 := fun t kt => st18 t (by
    show own_At p e below T14 m 25 #[rv ao, iv ud, iv (16385 : Int32), .unset] [(.int (16386 : Int32))] _
    refine XS.istoreN X14.here hx rfl (hb hby d8_25) rfl (l' := #[rv ao, iv ud, iv (16385 : Int32), iv (16386 : Int32)]) rfl ?_
    show own_At p e below T14 m 26 #[rv ao, iv ud, iv (16385 : Int32), iv (16386 : Int32)] [] _
    exact kt)
  obtain ⟨T20, h20, X20, e20, E20, A20, D20, -, ls20⟩ := newO X14 hx hZ hown (hw _ (List.mem_of_getElem? (i := 56) rfl)) (hw _ (List.mem_of_getElem? (i := 57) rfl)) (hw _ (List.mem_of_getElem? (i := 58) rfl)) e14 (g := (mkF m 26 #[rv ao, iv ud, iv (16385 : Int32), iv (16386 : Int32)] [])) rfl (hb hby d8_26) (by decide) (by decide)
  obtain ⟨vb, g20⟩ : ∃ z, z = h0.size := ⟨_, rfl⟩
  rw [← g20] at A20 D20 ls20
  have ne_ao_vb : ao ≠ vb := Nat.ne_of_lt (Nat.lt_of_lt_of_le E_ao.lt (Nat.le_of_eq g20.symm))
  have ne_bs_vb : bs ≠ vb := Nat.ne_of_lt (Nat.lt_of_lt_of_le A_bs.lt (Nat.le_of_eq g20.symm))
  have ne_bn_vb : bn ≠ vb := Nat.ne_of_lt (Nat.lt_of_lt_of_le A_bn.lt (Nat.le_of_eq g20.symm))
  have ne_bt_vb : bt ≠ vb := Nat.ne_of_lt (Nat.lt_of_lt_of_le A_bt.lt (Nat.le_of_eq g20.symm))
  have ne_bf_vb : bf ≠ vb := Nat.ne_of_lt (Nat.lt_of_lt_of_le A_bf.lt (Nat.le_of_eq g20.symm))
  have ne_t0_vb : t0 ≠ vb := Nat.ne_of_lt (Nat.lt_of_lt_of_le A_t0.lt (Nat.le_of_eq g20.symm))
  have ne_t1_vb : t1 ≠ vb := Nat.ne_of_lt (Nat.lt_of_lt_of_le A_t1.lt (Nat.le_of_eq g20.symm))
  have ne_f0_vb : f0 ≠ vb := Nat.ne_of_lt (Nat.lt_of_lt_of_le A_f0.lt (Nat.le_of_eq g20.symm))
  have ne_f1_vb : f1 ≠ vb := Nat.ne_of_lt (Nat.lt_of_lt_of_le A_f1.lt (Nat.le_of_eq g20.symm))
  have g_vb : n0 ≤ vb := Nat.le_trans Z0 (Nat.le_of_eq g20.symm)
  have sz_vb : h0.size ≤ vb := Nat.le_trans k0.1 (Nat.le_of_eq g20.symm)
  have f21 := E_ao.ext E20
  have f22 := F_from.ext E20
  have f23 := F_starts.ext E20
  have f24 := F_next.ext E20
  have f25 := F_tn.ext E20
  have f26 := F_fq.ext E20
  have f27 := A_bs.ext E20
  have f28 := A_bn.ext E20
  have f29 := A_bt.ext E20
  have f30 := A_bf.ext E20
  have f31 := A_t0.ext E20
  have f32 := A_t1.ext E20
  have f33 := A_f0.ext E20
  have f34 := A_f1.ext E20
  have z35 := Nat.le_trans Z0 E20.1
  have k36 := k0.ext E20
  have f37 : Fld Z h20 vb "com/example/ranked_text_search/rankedtextsearch/TermVectors$Vector" "termNumbers" "[I" .null := D20 (Or.inr (hw _ (List.mem_of_getElem? (i := 73) rfl))) (ty := (.array .int)) (by decide)
  have f38 : Fld Z h20 vb "com/example/ranked_text_search/rankedtextsearch/TermVectors$Vector" "frequencies" "[I" .null := D20 (Or.inr (hw _ (List.mem_of_getElem? (i := 75) rfl))) (ty := (.array .int)) (by decide)
  have st39 : own_Go p e below (T20.setTop (mkF m 29 #[rv ao, iv ud, iv (16385 : Int32), iv (16386 : Int32)] [(.ref vb)])) B0 := fun t kt => st19 t (ls20 t kt)
  have st40 : own_Go p e below (T20.setTop (mkF m 31 #[rv ao, iv ud, iv (16385 : Int32), iv (16386 : Int32)] [(.ref ao), (.ref vb), (.ref vb)])) B0 := fun t kt => st39 t (by
    show own_At p e below T20 m 29 #[rv ao, iv ud, iv (16385 : Int32), iv (16386 : Int32)] [(.ref vb)] _
    refine XS.dup X20.here hx rfl (hb hby d8_29) rfl rfl ?_
    show own_At p e below T20 m 30 #[rv ao, iv ud, iv (16385 : Int32), iv (16386 : Int32)] [(.ref vb), (.ref vb)] _
    refine XS.aloadN X20.here hx rfl (hb hby d8_30) rfl rfl ?_
    show own_At p e below T20 m 31 #[rv ao, iv ud, iv (16385 : Int32), iv (16386 : Int32)] [(.ref ao), (.ref vb), (.ref vb)] _
    exact kt)
  obtain ⟨T41, X41, e41, ls41⟩ := getF X20 hx hZ hown (host := "") (Or.inl (hw _ (List.mem_of_getElem? (i := 31) rfl))) Via.refl e20 f25 (g := (mkF m 31 #[rv ao, iv ud, iv (16385 : Int32), iv (16386 : Int32)] [(.ref ao), (.ref vb), (.ref vb)])) rfl rfl (hb hby d8_31)
  have st42 : own_Go p e below (T41.setTop (mkF m 34 #[rv ao, iv ud, iv (16385 : Int32), iv (16386 : Int32)] [(.ref bt), (.ref vb), (.ref vb)])) B0 := fun t kt => st40 t (ls41 t kt)
  have st43 : own_Go p e below (T41.setTop (mkF m 36 #[rv ao, iv ud, iv (16385 : Int32), iv (16386 : Int32)] [(.int (16386 : Int32)), (.int (16385 : Int32)), (.ref bt), (.ref vb), (.ref vb)])) B0 := fun t kt => st42 t (by
    show own_At p e below T41 m 34 #[rv ao, iv ud, iv (16385 : Int32), iv (16386 : Int32)] [(.ref bt), (.ref vb), (.ref vb)] _
    refine XS.iloadN X41.here hx rfl (hb hby d8_34) rfl ?_
    show own_At p e below T41 m 35 #[rv ao, iv ud, iv (16385 : Int32), iv (16386 : Int32)] [(.int (16385 : Int32)), (.ref bt), (.ref vb), (.ref vb)] _
    refine XS.iloadN X41.here hx rfl (hb hby d8_35) rfl ?_
    show own_At p e below T41 m 36 #[rv ao, iv ud, iv (16385 : Int32), iv (16386 : Int32)] [(.int (16386 : Int32)), (.int (16385 : Int32)), (.ref bt), (.ref vb), (.ref vb)] _
    exact kt)
  have lt44_ao := f21.lt
  have lt44_bs := f27.lt
  have lt44_bn := f28.lt
  have lt44_bt := f29.lt
  have lt44_bf := f30.lt
  have lt44_t0 := f31.lt
  have lt44_t1 := f32.lt
  have lt44_f0 := f33.lt
  have lt44_f1 := f34.lt
  have lt44_vb := A20.lt
  obtain ⟨_, _, ⟨T44, L44, k44, n44⟩, -, X44, ⟨Lc44, hQ44, l44, y44, z44⟩, ls44⟩ := Jvm.LawKit.callS X41 hx (y := (⟨"com/example/ranked_text_search/rankedtextsearch/MemoryTermVectors", "copy", "([[III)[I"⟩ : MethodName)) hown (mvT hZ (hw _ (List.mem_of_getElem? (i := 59) rfl))) (mvT hZ (hw _ (List.mem_of_getElem? (i := 60) rfl))) (mvT hZ (hw _ (List.mem_of_getElem? (i := 10) rfl))) (mvT hZ (hw _ (List.mem_of_getElem? (i := 61) rfl))) (by decide) (backOf (W := 2) (rm_cp_16385_16386 l Z a0 hw [] bt t0 t1 T h20 n0 z35 f29 f31 f32) hZ (hw _ (List.mem_of_getElem? (i := 61) rfl)) (hw _ (List.mem_of_getElem? (i := 10) rfl)) (by decide) (by decide)) (g := (mkF m 36 #[rv ao, iv ud, iv (16385 : Int32), iv (16386 : Int32)] [(.int (16386 : Int32)), (.int (16385 : Int32)), (.ref bt), (.ref vb), (.ref vb)])) rfl (by rw [hml]; rfl) (argsL := [(.ref bt), (.int (16385 : Int32)), (.int (16386 : Int32))]) (rest := [(.ref vb), (.ref vb)]) (lenOf own_pd4 rfl) rfl (by show 2 * 0 + _ ≤ _; exact Nat.le_of_eq rfl) (hb hby d8_36) (fun _ _ => ⟨rfl, e41, (by decide : 1 + 1 ≤ _), (by decide : 2 + 1 ≤ _)⟩)
  dsimp only [Pt.U, Pt.locs, Pt.cells, Pt.slots] at X44 l44 y44 z44 ls44 hQ44
  subst l44 y44 z44
  obtain ⟨bq44, rfl, Nq44, Kq44, g_bq44, sq44, Aq44⟩ := hQ44
  have N44 := Fr.app N0 Nq44
  have f45 := f21.keep Kq44
  have f46 := f22.keep Kq44 nin0
  have f47 := f23.keep Kq44 nin0
  have f48 := f24.keep Kq44 nin0
  have f49 := f25.keep Kq44 nin0
  have f50 := f26.keep Kq44 nin0
  have f51 := f27.keep Kq44 nin0
  have f52 := f28.keep Kq44 nin0
  have f53 := f29.keep Kq44 nin0
  have f54 := f30.keep Kq44 nin0
  have f55 := f31.keep Kq44 nin0
  have f56 := f32.keep Kq44 nin0
  have f57 := f33.keep Kq44 nin0
  have f58 := f34.keep Kq44 nin0
  have f59 := A20.keep Kq44
  have f60 := f37.keep Kq44 nin0
  have f61 := f38.keep Kq44 nin0
  have z62 := Nat.le_trans z35 Kq44.1
  have k63 := Keep.trans k36 Kq44 all0
  have ne_ao_bq44 : ao ≠ bq44 := Nat.ne_of_lt (Nat.lt_of_lt_of_le lt44_ao sq44)
  have ne_bs_bq44 : bs ≠ bq44 := Nat.ne_of_lt (Nat.lt_of_lt_of_le lt44_bs sq44)
  have ne_bn_bq44 : bn ≠ bq44 := Nat.ne_of_lt (Nat.lt_of_lt_of_le lt44_bn sq44)
  have ne_bt_bq44 : bt ≠ bq44 := Nat.ne_of_lt (Nat.lt_of_lt_of_le lt44_bt sq44)
  have ne_bf_bq44 : bf ≠ bq44 := Nat.ne_of_lt (Nat.lt_of_lt_of_le lt44_bf sq44)
  have ne_t0_bq44 : t0 ≠ bq44 := Nat.ne_of_lt (Nat.lt_of_lt_of_le lt44_t0 sq44)
  have ne_t1_bq44 : t1 ≠ bq44 := Nat.ne_of_lt (Nat.lt_of_lt_of_le lt44_t1 sq44)
  have ne_f0_bq44 : f0 ≠ bq44 := Nat.ne_of_lt (Nat.lt_of_lt_of_le lt44_f0 sq44)
  have ne_f1_bq44 : f1 ≠ bq44 := Nat.ne_of_lt (Nat.lt_of_lt_of_le lt44_f1 sq44)
  have ne_vb_bq44 : vb ≠ bq44 := Nat.ne_of_lt (Nat.lt_of_lt_of_le lt44_vb sq44)
  have sz_bq44 : h0.size ≤ bq44 := Nat.le_trans k36.1 sq44
  have st64 : own_Go p e below (T44.setTop (mkF m 39 #[rv ao, iv ud, iv (16385 : Int32), iv (16386 : Int32)] [(.ref bq44), (.ref vb), (.ref vb)])) B0 := fun t kt => st43 t (ls44 t kt)
  have st65 : own_Go p e below (T44.setTop (mkF m 40 #[rv ao, iv ud, iv (16385 : Int32), iv (16386 : Int32)] [(.ref ao), (.ref bq44), (.ref vb), (.ref vb)])) B0 := fun t kt => st64 t (by
    show own_At p e below T44 m 39 #[rv ao, iv ud, iv (16385 : Int32), iv (16386 : Int32)] [(.ref bq44), (.ref vb), (.ref vb)] _
    refine XS.aloadN X44.here hx rfl (hb hby d8_39) rfl rfl ?_
    show own_At p e below T44 m 40 #[rv ao, iv ud, iv (16385 : Int32), iv (16386 : Int32)] [(.ref ao), (.ref bq44), (.ref vb), (.ref vb)] _
    exact kt)
  obtain ⟨T66, X66, e66, ls66⟩ := getF X44 hx hZ hown (host := "") (Or.inl (hw _ (List.mem_of_getElem? (i := 33) rfl))) Via.refl rfl f50 (g := (mkF m 40 #[rv ao, iv ud, iv (16385 : Int32), iv (16386 : Int32)] [(.ref ao), (.ref bq44), (.ref vb), (.ref vb)])) rfl rfl (hb hby d8_40)
  have st67 : own_Go p e below (T66.setTop (mkF m 43 #[rv ao, iv ud, iv (16385 : Int32), iv (16386 : Int32)] [(.ref bf), (.ref bq44), (.ref vb), (.ref vb)])) B0 := fun t kt => st65 t (ls66 t kt)
  have st68 : own_Go p e below (T66.setTop (mkF m 45 #[rv ao, iv ud, iv (16385 : Int32), iv (16386 : Int32)] [(.int (16386 : Int32)), (.int (16385 : Int32)), (.ref bf), (.ref bq44), (.ref vb), (.ref vb)])) B0 := fun t kt => st67 t (by
    show own_At p e below T66 m 43 #[rv ao, iv ud, iv (16385 : Int32), iv (16386 : Int32)] [(.ref bf), (.ref bq44), (.ref vb), (.ref vb)] _
    refine XS.iloadN X66.here hx rfl (hb hby d8_43) rfl ?_
    show own_At p e below T66 m 44 #[rv ao, iv ud, iv (16385 : Int32), iv (16386 : Int32)] [(.int (16385 : Int32)), (.ref bf), (.ref bq44), (.ref vb), (.ref vb)] _
    refine XS.iloadN X66.here hx rfl (hb hby d8_44) rfl ?_
    show own_At p e below T66 m 45 #[rv ao, iv ud, iv (16385 : Int32), iv (16386 : Int32)] [(.int (16386 : Int32)), (.int (16385 : Int32)), (.ref bf), (.ref bq44), (.ref vb), (.ref vb)] _
    exact kt)
  have lt69_ao := f45.lt
  have lt69_bs := f51.lt
  have lt69_bn := f52.lt
  have lt69_bt := f53.lt
  have lt69_bf := f54.lt
  have lt69_t0 := f55.lt
  have lt69_t1 := f56.lt
  have lt69_f0 := f57.lt
  have lt69_f1 := f58.lt
  have lt69_vb := f59.lt
  have lt69_bq44 := Aq44.lt
  obtain ⟨_, _, ⟨T69, L69, k69, n69⟩, -, X69, ⟨Lc69, hQ69, l69, y69, z69⟩, ls69⟩ := Jvm.LawKit.callS X66 hx (y := (⟨"com/example/ranked_text_search/rankedtextsearch/MemoryTermVectors", "copy", "([[III)[I"⟩ : MethodName)) hown (mvT hZ (hw _ (List.mem_of_getElem? (i := 59) rfl))) (mvT hZ (hw _ (List.mem_of_getElem? (i := 60) rfl))) (mvT hZ (hw _ (List.mem_of_getElem? (i := 10) rfl))) (mvT hZ (hw _ (List.mem_of_getElem? (i := 61) rfl))) (by decide) (backOf (W := 3) (rm_cp_16385_16386 l Z a0 hw [] bf f0 f1 F T44.heap n0 z62 f54 f57 f58) hZ (hw _ (List.mem_of_getElem? (i := 61) rfl)) (hw _ (List.mem_of_getElem? (i := 10) rfl)) (by decide) (by decide)) (g := (mkF m 45 #[rv ao, iv ud, iv (16385 : Int32), iv (16386 : Int32)] [(.int (16386 : Int32)), (.int (16385 : Int32)), (.ref bf), (.ref bq44), (.ref vb), (.ref vb)])) rfl (by rw [hml]; rfl) (argsL := [(.ref bf), (.int (16385 : Int32)), (.int (16386 : Int32))]) (rest := [(.ref bq44), (.ref vb), (.ref vb)]) (lenOf own_pd4 rfl) rfl (by show 2 * 0 + _ ≤ _; exact Nat.le_of_eq rfl) (hb hby d8_45) (fun _ _ => ⟨rfl, e66, (by decide : 2 + 1 ≤ _), (by decide : 3 + 1 ≤ _)⟩)
  dsimp only [Pt.U, Pt.locs, Pt.cells, Pt.slots] at X69 l69 y69 z69 ls69 hQ69
  subst l69 y69 z69
  obtain ⟨bq69, rfl, Nq69, Kq69, g_bq69, sq69, Aq69⟩ := hQ69
  have N69 := Fr.app N44 Nq69
  have f70 := f45.keep Kq69
  have f71 := f46.keep Kq69 nin0
  have f72 := f47.keep Kq69 nin0
  have f73 := f48.keep Kq69 nin0
  have f74 := f49.keep Kq69 nin0
  have f75 := f50.keep Kq69 nin0
  have f76 := f51.keep Kq69 nin0
  have f77 := f52.keep Kq69 nin0
  have f78 := f53.keep Kq69 nin0
  have f79 := f54.keep Kq69 nin0
  have f80 := f55.keep Kq69 nin0
  have f81 := f56.keep Kq69 nin0
  have f82 := f57.keep Kq69 nin0
  have f83 := f58.keep Kq69 nin0
  have f84 := f59.keep Kq69
  have f85 := f60.keep Kq69 nin0
  have f86 := f61.keep Kq69 nin0
  have f87 := Aq44.keep Kq69 nin0
  have z88 := Nat.le_trans z62 Kq69.1
  have k89 := Keep.trans k63 Kq69 all0
  have ne_ao_bq69 : ao ≠ bq69 := Nat.ne_of_lt (Nat.lt_of_lt_of_le lt69_ao sq69)
  have ne_bs_bq69 : bs ≠ bq69 := Nat.ne_of_lt (Nat.lt_of_lt_of_le lt69_bs sq69)
  have ne_bn_bq69 : bn ≠ bq69 := Nat.ne_of_lt (Nat.lt_of_lt_of_le lt69_bn sq69)
  have ne_bt_bq69 : bt ≠ bq69 := Nat.ne_of_lt (Nat.lt_of_lt_of_le lt69_bt sq69)
  have ne_bf_bq69 : bf ≠ bq69 := Nat.ne_of_lt (Nat.lt_of_lt_of_le lt69_bf sq69)
  have ne_t0_bq69 : t0 ≠ bq69 := Nat.ne_of_lt (Nat.lt_of_lt_of_le lt69_t0 sq69)
  have ne_t1_bq69 : t1 ≠ bq69 := Nat.ne_of_lt (Nat.lt_of_lt_of_le lt69_t1 sq69)
  have ne_f0_bq69 : f0 ≠ bq69 := Nat.ne_of_lt (Nat.lt_of_lt_of_le lt69_f0 sq69)
  have ne_f1_bq69 : f1 ≠ bq69 := Nat.ne_of_lt (Nat.lt_of_lt_of_le lt69_f1 sq69)
  have ne_vb_bq69 : vb ≠ bq69 := Nat.ne_of_lt (Nat.lt_of_lt_of_le lt69_vb sq69)
  have ne_bq44_bq69 : bq44 ≠ bq69 := Nat.ne_of_lt (Nat.lt_of_lt_of_le lt69_bq44 sq69)
  have sz_bq69 : h0.size ≤ bq69 := Nat.le_trans k63.1 sq69
  have st90 : own_Go p e below (T69.setTop (mkF m 48 #[rv ao, iv ud, iv (16385 : Int32), iv (16386 : Int32)] [(.ref bq69), (.ref bq44), (.ref vb), (.ref vb)])) B0 := fun t kt => st68 t (ls69 t kt)
  obtain ⟨_, _, ⟨T91, L91, k91, n91⟩, -, X91, ⟨Lc91, hQ91, l91, y91, z91⟩, ls91⟩ := X69.specialBack hx (y := (⟨"com/example/ranked_text_search/rankedtextsearch/TermVectors$Vector", "<init>", "([I[I)V"⟩ : MethodName)) rfl hown (mvT hZ (hw _ (List.mem_of_getElem? (i := 63) rfl))) (mvT hZ (hw _ (List.mem_of_getElem? (i := 64) rfl))) (mvT hZ (hw _ (List.mem_of_getElem? (i := 65) rfl))) (by decide) (backOf (W := 1) (rm_vi l Z a0 hw [] vb bq44 bq69 T69.heap n0 z88 f85 f86 f84 g_vb) hZ (hw _ (List.mem_of_getElem? (i := 65) rfl)) (hw _ (List.mem_of_getElem? (i := 58) rfl)) (by decide) (by decide)) (g := (mkF m 48 #[rv ao, iv ud, iv (16385 : Int32), iv (16386 : Int32)] [(.ref bq69), (.ref bq44), (.ref vb), (.ref vb)])) rfl (by rw [hml]; rfl) (Steps.refl _) (a := vb) (argsL := [(.ref bq44), (.ref bq69)]) (rest := [(.ref vb)]) (lenOf own_pd5 rfl) rfl (by show 2 * 0 + _ ≤ _; exact Nat.le_of_eq rfl) (hb hby d8_48) (fun _ _ => ⟨rfl, rfl, (by decide : 3 + 0 ≤ _), (by decide : 4 + 0 ≤ _)⟩)
  dsimp only [Pt.U, Pt.locs, Pt.cells, Pt.slots] at X91 l91 y91 z91 ls91 hQ91
  subst l91 y91 z91
  obtain ⟨rfl, Nq91, Kq91, Fq91_termNumbers, Fq91_frequencies⟩ := hQ91
  have N91 := Fr.app N69 Nq91
  have f92 := f70.keep Kq91
  have f93 := f71.keep Kq91 (ninS ne_ao_vb nin0)
  have f94 := f72.keep Kq91 (ninS ne_ao_vb nin0)
  have f95 := f73.keep Kq91 (ninS ne_ao_vb nin0)
  have f96 := f74.keep Kq91 (ninS ne_ao_vb nin0)
  have f97 := f75.keep Kq91 (ninS ne_ao_vb nin0)
  have f98 := f76.keep Kq91 (ninS ne_bs_vb nin0)
  have f99 := f77.keep Kq91 (ninS ne_bn_vb nin0)
  have f100 := f78.keep Kq91 (ninS ne_bt_vb nin0)
  have f101 := f79.keep Kq91 (ninS ne_bf_vb nin0)
  have f102 := f80.keep Kq91 (ninS ne_t0_vb nin0)
  have f103 := f81.keep Kq91 (ninS ne_t1_vb nin0)
  have f104 := f82.keep Kq91 (ninS ne_f0_vb nin0)
  have f105 := f83.keep Kq91 (ninS ne_f1_vb nin0)
  have f106 := f84.keep Kq91
  have f109 := f87.keep Kq91 (ninS (Ne.symm ne_vb_bq44) nin0)
  have f110 := Aq69.keep Kq91 (ninS (Ne.symm ne_vb_bq69) nin0)
  have z111 := Nat.le_trans z88 Kq91.1
  have k112 := Keep.trans k89 Kq91 (allS (P := fun x => x ∈ [] ∨ h0.size ≤ x) (Or.inr sz_vb) all0)
  have st113 : own_Go p e below (T91.setTop (mkF m 51 #[rv ao, iv ud, iv (16385 : Int32), iv (16386 : Int32)] [(.ref vb)])) B0 := fun t kt => st90 t (ls91.trans kt)
  obtain ⟨fs, hr, hrun, hended, hW, hsame⟩ := X91.leave (v := (some (.ref vb))) (fun h => by rw [Bd.returns] at h; cases h)
  subst hB0
  refine ⟨_, _, st113 _ ?_, hrun, hended, _, _, rfl, ?_, ⟨_, rfl⟩, hW, hsame.mono (by decide) (by decide)⟩
  · exact retOut X91 hx Bd.returns rfl (Or.inr (Or.inr (Or.inr (Or.inr ⟨rfl, rfl, rfl⟩)))) (hb hby d8_51) hr
  · show Q_rm_vec_16385_16386 Z ao ud uf nx T F h0 n0 _ T91.heap _
    skip
    exact ⟨vb, bq44, bq69, rfl, N91, k112, f106, Fq91_termNumbers, Fq91_frequencies, f109, f110⟩
def Q_rm_law (Z : State) (xf : Int32) (xg : Int32) (xt : Int64) (xq : Int64) (xc : Int64) (h0 : Heap) (n0 : Nat) (v : Option Value) (h : Heap) (L : List Loc) : Prop := v = some (.int 1) ∧ Fr n0 L
set_option maxRecDepth 65536 in
set_option maxHeartbeats 40000000 in
theorem rm_law (l : Launch) (Z : State) (a0 : Array Value) (hw : ∀ d ∈ tables_1, d.before a0 Z = true) (ws : List Jvm.Cond) (xf : Int32) (xg : Int32) (xt : Int64) (xq : Int64) (xc : Int64) (h0 : Heap) (n0 : Nat) (Z0 : n0 ≤ h0.size) :
    MetFree l x (head1 (Jvm.Cond.code x code maxLocals ret :: ws) room_1) (fun a U => a = #[(.int xf), (.int xg), (.long xt), (.long xq), (.long xc)] ∧ Z.Warmed39 U.vm ∧ U.heap = h0) (fun _ _ _ _ _ => True) (fun _ U o U' => ∃ v L, o = .returned v ∧ Q_rm_law Z xf xg xt xq xc h0 n0 v U'.heap L ∧ FrameEnd U o U' L room_1.cells room_1.slots) := by
  refine MetFree.of_bodySF (plainFor_of_name own_pn4) hisR ?_
  intro p e s m args below meth c s₁ Bd hml0 hP hK
  obtain ⟨rfl, hZ, hh⟩ := hP
  have hx := Bd.exec
  have hby := Bd.bytes
  have hml : c.maxLocals = 28 := hml0
  have hown : s.vm.findClass "com/example/ranked_text_search/rankedtextsearch/MemoryTermVectorsAddPinLaw" = some m.cls := findClass_of_methodNamed Bd.named
  have hnm := (name_of_methodNamed Bd.named Bd.method).1
  have X0 : Stand p l e room_1 s m #[(.int xf), (.int xg), (.long xt), (.long xq), (.long xc)] below meth c s₁ [] 0 0 := Stand.of_body Bd
  have e0 : s₁.heap = h0 := by rw [← hh, Bd.state]; rfl
  have N0 := Fr.nil n0
  obtain ⟨B0, hB0⟩ : ∃ B, B = (s₁.setTop (entryFrame m #[(.int xf), (.int xg), (.long xt), (.long xq), (.long xc)] maxLocals)) := ⟨_, rfl⟩
  have st0 : own_Go p e below (s₁.setTop (mkF m 0 #[iv xf, iv xg, .val (.long xt), .second, .val (.long xq), .second, .val (.long xc), .second, .unset, .unset, .unset, .unset, .unset, .unset, .unset, .unset, .unset, .unset, .unset, .unset, .unset, .unset, .unset, .unset, .unset, .unset, .unset, .unset] [])) B0 := fun t k => hB0 ▸ castTop (own_ef0_IIJJJ m xf xg xt xq xc) k
  have st1 : own_Go p e below (s₁.setTop (mkF m 3 #[iv xf, iv xg, .val (.long xt), .second, .val (.long xq), .second, .val (.long xc), .second, .unset, .unset, .unset, .unset, .unset, .unset, .unset, .unset, .unset, .unset, .unset, .unset, .unset, .unset, .unset, .unset, .unset, .unset, .unset, .unset] [(.int (xg &&& (1 : Int32)))])) B0 := fun t kt => st0 t (by
    show own_At p e below s₁ m 0 #[iv xf, iv xg, .val (.long xt), .second, .val (.long xq), .second, .val (.long xc), .second, .unset, .unset, .unset, .unset, .unset, .unset, .unset, .unset, .unset, .unset, .unset, .unset, .unset, .unset, .unset, .unset, .unset, .unset, .unset, .unset] [] _
    refine XS.iloadN X0.here hx rfl (hb hby at_0) rfl ?_
    show own_At p e below s₁ m 1 #[iv xf, iv xg, .val (.long xt), .second, .val (.long xq), .second, .val (.long xc), .second, .unset, .unset, .unset, .unset, .unset, .unset, .unset, .unset, .unset, .unset, .unset, .unset, .unset, .unset, .unset, .unset, .unset, .unset, .unset, .unset] [(.int xg)] _
    refine XS.iconst X0.here hx rfl (hb hby at_1) ?_
    show own_At p e below s₁ m 2 #[iv xf, iv xg, .val (.long xt), .second, .val (.long xq), .second, .val (.long xc), .second, .unset, .unset, .unset, .unset, .unset, .unset, .unset, .unset, .unset, .unset, .unset, .unset, .unset, .unset, .unset, .unset, .unset, .unset, .unset, .unset] [(.int (1 : Int32)), (.int xg)] _
    refine XS.iand X0.here hx rfl (hb hby at_2) rfl ?_
    show own_At p e below s₁ m 3 #[iv xf, iv xg, .val (.long xt), .second, .val (.long xq), .second, .val (.long xc), .second, .unset, .unset, .unset, .unset, .unset, .unset, .unset, .unset, .unset, .unset, .unset, .unset, .unset, .unset, .unset, .unset, .unset, .unset, .unset, .unset] [(.int (xg &&& (1 : Int32)))] _
    exact kt)
  obtain ⟨bg, hj2, st2⟩ : ∃ (bg : Int32), (True) ∧ own_Go p e below (s₁.setTop (mkF m 13 #[iv xf, iv xg, .val (.long xt), .second, .val (.long xq), .second, .val (.long xc), .second, iv bg, .unset, .unset, .unset, .unset, .unset, .unset, .unset, .unset, .unset, .unset, .unset, .unset, .unset, .unset, .unset, .unset, .unset, .unset, .unset] [])) B0 := by
    by_cases q1 : (xg &&& (1 : Int32)) = (0 : Int32)
    · have st3 : own_Go p e below (s₁.setTop (mkF m 13 #[iv xf, iv xg, .val (.long xt), .second, .val (.long xq), .second, .val (.long xc), .second, iv (0 : Int32), .unset, .unset, .unset, .unset, .unset, .unset, .unset, .unset, .unset, .unset, .unset, .unset, .unset, .unset, .unset, .unset, .unset, .unset, .unset] [])) B0 := fun t kt => st1 t (by
        show own_At p e below s₁ m 3 #[iv xf, iv xg, .val (.long xt), .second, .val (.long xq), .second, .val (.long xc), .second, .unset, .unset, .unset, .unset, .unset, .unset, .unset, .unset, .unset, .unset, .unset, .unset, .unset, .unset, .unset, .unset, .unset, .unset, .unset, .unset] [(.int (xg &&& (1 : Int32)))] _
        refine XS.ifYes X0.here hx rfl (pc0 := 3) (pc' := 10) rfl (hb hby at_3) rfl ((if0 _ _).trans (teq q1).1) (by decide) (by decide) ?_
        show own_At p e below s₁ m 10 #[iv xf, iv xg, .val (.long xt), .second, .val (.long xq), .second, .val (.long xc), .second, .unset, .unset, .unset, .unset, .unset, .unset, .unset, .unset, .unset, .unset, .unset, .unset, .unset, .unset, .unset, .unset, .unset, .unset, .unset, .unset] [] _
        refine XS.iconst X0.here hx rfl (hb hby at_10) ?_
        show own_At p e below s₁ m 11 #[iv xf, iv xg, .val (.long xt), .second, .val (.long xq), .second, .val (.long xc), .second, .unset, .unset, .unset, .unset, .unset, .unset, .unset, .unset, .unset, .unset, .unset, .unset, .unset, .unset, .unset, .unset, .unset, .unset, .unset, .unset] [(.int (0 : Int32))] _
        refine XS.istore X0.here hx rfl (hb hby at_11) rfl (l' := #[iv xf, iv xg, .val (.long xt), .second, .val (.long xq), .second, .val (.long xc), .second, iv (0 : Int32), .unset, .unset, .unset, .unset, .unset, .unset, .unset, .unset, .unset, .unset, .unset, .unset, .unset, .unset, .unset, .unset, .unset, .unset, .unset]) rfl ?_
        show own_At p e below s₁ m 13 #[iv xf, iv xg, .val (.long xt), .second, .val (.long xq), .second, .val (.long xc), .second, iv (0 : Int32), .unset, .unset, .unset, .unset, .unset, .unset, .unset, .unset, .unset, .unset, .unset, .unset, .unset, .unset, .unset, .unset, .unset, .unset, .unset] [] _
        exact kt)
      exact ⟨(0 : Int32), trivial, st3⟩
    · have st4 : own_Go p e below (s₁.setTop (mkF m 13 #[iv xf, iv xg, .val (.long xt), .second, .val (.long xq), .second, .val (.long xc), .second, iv (1 : Int32), .unset, .unset, .unset, .unset, .unset, .unset, .unset, .unset, .unset, .unset, .unset, .unset, .unset, .unset, .unset, .unset, .unset, .unset, .unset] [])) B0 := fun t kt => st1 t (by
        show own_At p e below s₁ m 3 #[iv xf, iv xg, .val (.long xt), .second, .val (.long xq), .second, .val (.long xc), .second, .unset, .unset, .unset, .unset, .unset, .unset, .unset, .unset, .unset, .unset, .unset, .unset, .unset, .unset, .unset, .unset, .unset, .unset, .unset, .unset] [(.int (xg &&& (1 : Int32)))] _
        refine XS.ifNo X0.here hx rfl (hb hby at_3) rfl ((if0 _ _).trans (feq q1).1) ?_
        show own_At p e below s₁ m 6 #[iv xf, iv xg, .val (.long xt), .second, .val (.long xq), .second, .val (.long xc), .second, .unset, .unset, .unset, .unset, .unset, .unset, .unset, .unset, .unset, .unset, .unset, .unset, .unset, .unset, .unset, .unset, .unset, .unset, .unset, .unset] [] _
        refine XS.iconst X0.here hx rfl (hb hby at_6) ?_
        show own_At p e below s₁ m 7 #[iv xf, iv xg, .val (.long xt), .second, .val (.long xq), .second, .val (.long xc), .second, .unset, .unset, .unset, .unset, .unset, .unset, .unset, .unset, .unset, .unset, .unset, .unset, .unset, .unset, .unset, .unset, .unset, .unset, .unset, .unset] [(.int (1 : Int32))] _
        refine XS.goto X0.here hx rfl (pc0 := 7) (pc' := 11) rfl (hb hby at_7) (by decide) (by decide) ?_
        show own_At p e below s₁ m 11 #[iv xf, iv xg, .val (.long xt), .second, .val (.long xq), .second, .val (.long xc), .second, .unset, .unset, .unset, .unset, .unset, .unset, .unset, .unset, .unset, .unset, .unset, .unset, .unset, .unset, .unset, .unset, .unset, .unset, .unset, .unset] [(.int (1 : Int32))] _
        refine XS.istore X0.here hx rfl (hb hby at_11) rfl (l' := #[iv xf, iv xg, .val (.long xt), .second, .val (.long xq), .second, .val (.long xc), .second, iv (1 : Int32), .unset, .unset, .unset, .unset, .unset, .unset, .unset, .unset, .unset, .unset, .unset, .unset, .unset, .unset, .unset, .unset, .unset, .unset, .unset]) rfl ?_
        show own_At p e below s₁ m 13 #[iv xf, iv xg, .val (.long xt), .second, .val (.long xq), .second, .val (.long xc), .second, iv (1 : Int32), .unset, .unset, .unset, .unset, .unset, .unset, .unset, .unset, .unset, .unset, .unset, .unset, .unset, .unset, .unset, .unset, .unset, .unset, .unset] [] _
        exact kt)
      exact ⟨(1 : Int32), trivial, st4⟩
  obtain ⟨od, h_od⟩ : ∃ z : Int32, z = ((((xg.toUInt32 >>> ((1 : Int32) &&& 31).toUInt32).toInt32) &&& (255 : Int32)) % (3 : Int32)) := ⟨_, rfl⟩
  obtain ⟨v_x, h_v_x⟩ : ∃ z : Int32, z = (xt.toInt32) := ⟨_, rfl⟩
  obtain ⟨v_y, h_v_y⟩ : ∃ z : Int32, z = (((xt.toUInt64 >>> ((32 : Int32) &&& 0x3f).toInt64.toUInt64).toInt64).toInt32) := ⟨_, rfl⟩
  have st5 : own_Go p e below (s₁.setTop (mkF m 39 #[iv xf, iv xg, .val (.long xt), .second, .val (.long xq), .second, .val (.long xc), .second, iv bg, iv od, iv v_x, iv v_y, .unset, .unset, .unset, .unset, .unset, .unset, .unset, .unset, .unset, .unset, .unset, .unset, .unset, .unset, .unset, .unset] [(.int v_y), (.int v_x)])) B0 := fun t kt => st2 t (by
    show own_At p e below s₁ m 13 #[iv xf, iv xg, .val (.long xt), .second, .val (.long xq), .second, .val (.long xc), .second, iv bg, .unset, .unset, .unset, .unset, .unset, .unset, .unset, .unset, .unset, .unset, .unset, .unset, .unset, .unset, .unset, .unset, .unset, .unset, .unset] [] _
    refine XS.iloadN X0.here hx rfl (hb hby at_13) rfl ?_
    show own_At p e below s₁ m 14 #[iv xf, iv xg, .val (.long xt), .second, .val (.long xq), .second, .val (.long xc), .second, iv bg, .unset, .unset, .unset, .unset, .unset, .unset, .unset, .unset, .unset, .unset, .unset, .unset, .unset, .unset, .unset, .unset, .unset, .unset, .unset] [(.int xg)] _
    refine XS.iconst X0.here hx rfl (hb hby at_14) ?_
    show own_At p e below s₁ m 15 #[iv xf, iv xg, .val (.long xt), .second, .val (.long xq), .second, .val (.long xc), .second, iv bg, .unset, .unset, .unset, .unset, .unset, .unset, .unset, .unset, .unset, .unset, .unset, .unset, .unset, .unset, .unset, .unset, .unset, .unset, .unset] [(.int (1 : Int32)), (.int xg)] _
    refine XS.iushr X0.here hx rfl (hb hby at_15) rfl ?_
    show own_At p e below s₁ m 16 #[iv xf, iv xg, .val (.long xt), .second, .val (.long xq), .second, .val (.long xc), .second, iv bg, .unset, .unset, .unset, .unset, .unset, .unset, .unset, .unset, .unset, .unset, .unset, .unset, .unset, .unset, .unset, .unset, .unset, .unset, .unset] [(.int ((xg.toUInt32 >>> ((1 : Int32) &&& 31).toUInt32).toInt32))] _
    refine XS.sipush X0.here hx rfl (hb hby at_16) ?_
    show own_At p e below s₁ m 19 #[iv xf, iv xg, .val (.long xt), .second, .val (.long xq), .second, .val (.long xc), .second, iv bg, .unset, .unset, .unset, .unset, .unset, .unset, .unset, .unset, .unset, .unset, .unset, .unset, .unset, .unset, .unset, .unset, .unset, .unset, .unset] [(.int (255 : Int32)), (.int ((xg.toUInt32 >>> ((1 : Int32) &&& 31).toUInt32).toInt32))] _
    refine XS.iand X0.here hx rfl (hb hby at_19) rfl ?_
    show own_At p e below s₁ m 20 #[iv xf, iv xg, .val (.long xt), .second, .val (.long xq), .second, .val (.long xc), .second, iv bg, .unset, .unset, .unset, .unset, .unset, .unset, .unset, .unset, .unset, .unset, .unset, .unset, .unset, .unset, .unset, .unset, .unset, .unset, .unset] [(.int (((xg.toUInt32 >>> ((1 : Int32) &&& 31).toUInt32).toInt32) &&& (255 : Int32)))] _
    refine XS.iconst X0.here hx rfl (hb hby at_20) ?_
    show own_At p e below s₁ m 21 #[iv xf, iv xg, .val (.long xt), .second, .val (.long xq), .second, .val (.long xc), .second, iv bg, .unset, .unset, .unset, .unset, .unset, .unset, .unset, .unset, .unset, .unset, .unset, .unset, .unset, .unset, .unset, .unset, .unset, .unset, .unset] [(.int (3 : Int32)), (.int (((xg.toUInt32 >>> ((1 : Int32) &&& 31).toUInt32).toInt32) &&& (255 : Int32)))] _
    refine iremM X0 hx rfl (hb hby at_21) rfl (by decide) ?_
    show own_At p e below s₁ m 22 #[iv xf, iv xg, .val (.long xt), .second, .val (.long xq), .second, .val (.long xc), .second, iv bg, .unset, .unset, .unset, .unset, .unset, .unset, .unset, .unset, .unset, .unset, .unset, .unset, .unset, .unset, .unset, .unset, .unset, .unset, .unset] [(.int ((((xg.toUInt32 >>> ((1 : Int32) &&& 31).toUInt32).toInt32) &&& (255 : Int32)) % (3 : Int32)))] _
    rw [← h_od]
    show own_At p e below s₁ m 22 #[iv xf, iv xg, .val (.long xt), .second, .val (.long xq), .second, .val (.long xc), .second, iv bg, .unset, .unset, .unset, .unset, .unset, .unset, .unset, .unset, .unset, .unset, .unset, .unset, .unset, .unset, .unset, .unset, .unset, .unset, .unset] [(.int od)] _
    refine XS.istore X0.here hx rfl (hb hby at_22) rfl (l' := #[iv xf, iv xg, .val (.long xt), .second, .val (.long xq), .second, .val (.long xc), .second, iv bg, iv od, .unset, .unset, .unset, .unset, .unset, .unset, .unset, .unset, .unset, .unset, .unset, .unset, .unset, .unset, .unset, .unset, .unset, .unset]) rfl ?_
    show own_At p e below s₁ m 24 #[iv xf, iv xg, .val (.long xt), .second, .val (.long xq), .second, .val (.long xc), .second, iv bg, iv od, .unset, .unset, .unset, .unset, .unset, .unset, .unset, .unset, .unset, .unset, .unset, .unset, .unset, .unset, .unset, .unset, .unset, .unset] [] _
    refine XS.lloadN X0.here hx rfl (hb hby at_24) rfl ?_
    show own_At p e below s₁ m 25 #[iv xf, iv xg, .val (.long xt), .second, .val (.long xq), .second, .val (.long xc), .second, iv bg, iv od, .unset, .unset, .unset, .unset, .unset, .unset, .unset, .unset, .unset, .unset, .unset, .unset, .unset, .unset, .unset, .unset, .unset, .unset] [(.long xt)] _
    refine XS.l2i X0.here hx rfl (hb hby at_25) rfl ?_
    show own_At p e below s₁ m 26 #[iv xf, iv xg, .val (.long xt), .second, .val (.long xq), .second, .val (.long xc), .second, iv bg, iv od, .unset, .unset, .unset, .unset, .unset, .unset, .unset, .unset, .unset, .unset, .unset, .unset, .unset, .unset, .unset, .unset, .unset, .unset] [(.int (xt.toInt32))] _
    rw [← h_v_x]
    show own_At p e below s₁ m 26 #[iv xf, iv xg, .val (.long xt), .second, .val (.long xq), .second, .val (.long xc), .second, iv bg, iv od, .unset, .unset, .unset, .unset, .unset, .unset, .unset, .unset, .unset, .unset, .unset, .unset, .unset, .unset, .unset, .unset, .unset, .unset] [(.int v_x)] _
    refine XS.istore X0.here hx rfl (hb hby at_26) rfl (l' := #[iv xf, iv xg, .val (.long xt), .second, .val (.long xq), .second, .val (.long xc), .second, iv bg, iv od, iv v_x, .unset, .unset, .unset, .unset, .unset, .unset, .unset, .unset, .unset, .unset, .unset, .unset, .unset, .unset, .unset, .unset, .unset]) rfl ?_
    show own_At p e below s₁ m 28 #[iv xf, iv xg, .val (.long xt), .second, .val (.long xq), .second, .val (.long xc), .second, iv bg, iv od, iv v_x, .unset, .unset, .unset, .unset, .unset, .unset, .unset, .unset, .unset, .unset, .unset, .unset, .unset, .unset, .unset, .unset, .unset] [] _
    refine XS.lloadN X0.here hx rfl (hb hby at_28) rfl ?_
    show own_At p e below s₁ m 29 #[iv xf, iv xg, .val (.long xt), .second, .val (.long xq), .second, .val (.long xc), .second, iv bg, iv od, iv v_x, .unset, .unset, .unset, .unset, .unset, .unset, .unset, .unset, .unset, .unset, .unset, .unset, .unset, .unset, .unset, .unset, .unset] [(.long xt)] _
    refine XS.bipush X0.here hx rfl (hb hby at_29) ?_
    show own_At p e below s₁ m 31 #[iv xf, iv xg, .val (.long xt), .second, .val (.long xq), .second, .val (.long xc), .second, iv bg, iv od, iv v_x, .unset, .unset, .unset, .unset, .unset, .unset, .unset, .unset, .unset, .unset, .unset, .unset, .unset, .unset, .unset, .unset, .unset] [(.int (32 : Int32)), (.long xt)] _
    refine XS.lushr X0.here hx rfl (hb hby at_31) rfl ?_
    show own_At p e below s₁ m 32 #[iv xf, iv xg, .val (.long xt), .second, .val (.long xq), .second, .val (.long xc), .second, iv bg, iv od, iv v_x, .unset, .unset, .unset, .unset, .unset, .unset, .unset, .unset, .unset, .unset, .unset, .unset, .unset, .unset, .unset, .unset, .unset] [(.long ((xt.toUInt64 >>> ((32 : Int32) &&& 0x3f).toInt64.toUInt64).toInt64))] _
    refine XS.l2i X0.here hx rfl (hb hby at_32) rfl ?_
    show own_At p e below s₁ m 33 #[iv xf, iv xg, .val (.long xt), .second, .val (.long xq), .second, .val (.long xc), .second, iv bg, iv od, iv v_x, .unset, .unset, .unset, .unset, .unset, .unset, .unset, .unset, .unset, .unset, .unset, .unset, .unset, .unset, .unset, .unset, .unset] [(.int (((xt.toUInt64 >>> ((32 : Int32) &&& 0x3f).toInt64.toUInt64).toInt64).toInt32))] _
    rw [← h_v_y]
    show own_At p e below s₁ m 33 #[iv xf, iv xg, .val (.long xt), .second, .val (.long xq), .second, .val (.long xc), .second, iv bg, iv od, iv v_x, .unset, .unset, .unset, .unset, .unset, .unset, .unset, .unset, .unset, .unset, .unset, .unset, .unset, .unset, .unset, .unset, .unset] [(.int v_y)] _
    refine XS.istore X0.here hx rfl (hb hby at_33) rfl (l' := #[iv xf, iv xg, .val (.long xt), .second, .val (.long xq), .second, .val (.long xc), .second, iv bg, iv od, iv v_x, iv v_y, .unset, .unset, .unset, .unset, .unset, .unset, .unset, .unset, .unset, .unset, .unset, .unset, .unset, .unset, .unset, .unset]) rfl ?_
    show own_At p e below s₁ m 35 #[iv xf, iv xg, .val (.long xt), .second, .val (.long xq), .second, .val (.long xc), .second, iv bg, iv od, iv v_x, iv v_y, .unset, .unset, .unset, .unset, .unset, .unset, .unset, .unset, .unset, .unset, .unset, .unset, .unset, .unset, .unset, .unset] [] _
    refine XS.iload X0.here hx rfl (hb hby at_35) rfl ?_
    show own_At p e below s₁ m 37 #[iv xf, iv xg, .val (.long xt), .second, .val (.long xq), .second, .val (.long xc), .second, iv bg, iv od, iv v_x, iv v_y, .unset, .unset, .unset, .unset, .unset, .unset, .unset, .unset, .unset, .unset, .unset, .unset, .unset, .unset, .unset, .unset] [(.int v_x)] _
    refine XS.iload X0.here hx rfl (hb hby at_37) rfl ?_
    show own_At p e below s₁ m 39 #[iv xf, iv xg, .val (.long xt), .second, .val (.long xq), .second, .val (.long xc), .second, iv bg, iv od, iv v_x, iv v_y, .unset, .unset, .unset, .unset, .unset, .unset, .unset, .unset, .unset, .unset, .unset, .unset, .unset, .unset, .unset, .unset] [(.int v_y), (.int v_x)] _
    exact kt)
  by_cases q2 : v_x = v_y
  · have st6 : own_Go p e below (s₁.setTop (mkF m 43 #[iv xf, iv xg, .val (.long xt), .second, .val (.long xq), .second, .val (.long xc), .second, iv bg, iv od, iv v_x, iv v_y, .unset, .unset, .unset, .unset, .unset, .unset, .unset, .unset, .unset, .unset, .unset, .unset, .unset, .unset, .unset, .unset] [(.int (1 : Int32))])) B0 := fun t kt => st5 t (by
      show own_At p e below s₁ m 39 #[iv xf, iv xg, .val (.long xt), .second, .val (.long xq), .second, .val (.long xc), .second, iv bg, iv od, iv v_x, iv v_y, .unset, .unset, .unset, .unset, .unset, .unset, .unset, .unset, .unset, .unset, .unset, .unset, .unset, .unset, .unset, .unset] [(.int v_y), (.int v_x)] _
      refine XS.icmpNo X0.here hx rfl (hb hby at_39) rfl (teq q2).2 ?_
      show own_At p e below s₁ m 42 #[iv xf, iv xg, .val (.long xt), .second, .val (.long xq), .second, .val (.long xc), .second, iv bg, iv od, iv v_x, iv v_y, .unset, .unset, .unset, .unset, .unset, .unset, .unset, .unset, .unset, .unset, .unset, .unset, .unset, .unset, .unset, .unset] [] _
      refine XS.iconst X0.here hx rfl (hb hby at_42) ?_
      show own_At p e below s₁ m 43 #[iv xf, iv xg, .val (.long xt), .second, .val (.long xq), .second, .val (.long xc), .second, iv bg, iv od, iv v_x, iv v_y, .unset, .unset, .unset, .unset, .unset, .unset, .unset, .unset, .unset, .unset, .unset, .unset, .unset, .unset, .unset, .unset] [(.int (1 : Int32))] _
      exact kt)
    obtain ⟨fs, hr, hrun, hended, hW, hsame⟩ := X0.leave (v := (some (.int (1 : Int32)))) (fun h => by rw [Bd.returns] at h; cases h)
    subst hB0
    refine ⟨_, _, st6 _ ?_, hrun, hended, _, _, rfl, ?_, ⟨_, rfl⟩, hW, hsame.mono (by decide) (by decide)⟩
    · exact retN X0 hx (t := .boolean) Bd.returns (by simp) (hb hby at_43) hr
    · show Q_rm_law Z xf xg xt xq xc h0 n0 _ s₁.heap _
      rw [e0]
      exact ⟨rfl, N0⟩
  · have st7 : own_Go p e below (s₁.setTop (mkF m 48 #[iv xf, iv xg, .val (.long xt), .second, .val (.long xq), .second, .val (.long xc), .second, iv bg, iv od, iv v_x, iv v_y, .unset, .unset, .unset, .unset, .unset, .unset, .unset, .unset, .unset, .unset, .unset, .unset, .unset, .unset, .unset, .unset] [(.int v_y), (.int v_x)])) B0 := fun t kt => st5 t (by
      show own_At p e below s₁ m 39 #[iv xf, iv xg, .val (.long xt), .second, .val (.long xq), .second, .val (.long xc), .second, iv bg, iv od, iv v_x, iv v_y, .unset, .unset, .unset, .unset, .unset, .unset, .unset, .unset, .unset, .unset, .unset, .unset, .unset, .unset, .unset, .unset] [(.int v_y), (.int v_x)] _
      refine XS.icmpYes X0.here hx rfl (pc0 := 39) (pc' := 44) rfl (hb hby at_39) rfl (feq q2).2 (by decide) (by decide) ?_
      show own_At p e below s₁ m 44 #[iv xf, iv xg, .val (.long xt), .second, .val (.long xq), .second, .val (.long xc), .second, iv bg, iv od, iv v_x, iv v_y, .unset, .unset, .unset, .unset, .unset, .unset, .unset, .unset, .unset, .unset, .unset, .unset, .unset, .unset, .unset, .unset] [] _
      refine XS.iload X0.here hx rfl (hb hby at_44) rfl ?_
      show own_At p e below s₁ m 46 #[iv xf, iv xg, .val (.long xt), .second, .val (.long xq), .second, .val (.long xc), .second, iv bg, iv od, iv v_x, iv v_y, .unset, .unset, .unset, .unset, .unset, .unset, .unset, .unset, .unset, .unset, .unset, .unset, .unset, .unset, .unset, .unset] [(.int v_x)] _
      refine XS.iload X0.here hx rfl (hb hby at_46) rfl ?_
      show own_At p e below s₁ m 48 #[iv xf, iv xg, .val (.long xt), .second, .val (.long xq), .second, .val (.long xc), .second, iv bg, iv od, iv v_x, iv v_y, .unset, .unset, .unset, .unset, .unset, .unset, .unset, .unset, .unset, .unset, .unset, .unset, .unset, .unset, .unset, .unset] [(.int v_y), (.int v_x)] _
      exact kt)
    obtain ⟨_, _, ⟨T8, L8, k8, n8⟩, -, X8, ⟨Lc8, hQ8, l8, y8, z8⟩, ls8⟩ := Jvm.LawKit.callS X0 hx (y := (⟨"java/lang/Math", "min", "(II)I"⟩ : MethodName)) hown (mvT hZ (hw _ (List.mem_of_getElem? (i := 0) rfl))) (mvT hZ (hw _ (List.mem_of_getElem? (i := 1) rfl))) (mvT hZ (hw _ (List.mem_of_getElem? (i := 2) rfl))) (mvT hZ (hw _ (List.mem_of_getElem? (i := 3) rfl))) (by decide) (backOf (W := 0) (rm_min l Z a0 hw [] v_x v_y h0 n0 Z0) hZ (hw _ (List.mem_of_getElem? (i := 3) rfl)) (hw _ (List.mem_of_getElem? (i := 2) rfl)) (by decide) (by decide)) (g := (mkF m 48 #[iv xf, iv xg, .val (.long xt), .second, .val (.long xq), .second, .val (.long xc), .second, iv bg, iv od, iv v_x, iv v_y, .unset, .unset, .unset, .unset, .unset, .unset, .unset, .unset, .unset, .unset, .unset, .unset, .unset, .unset, .unset, .unset] [(.int v_y), (.int v_x)])) rfl (by rw [hml]; rfl) (argsL := [(.int v_x), (.int v_y)]) (rest := []) (lenOf own_pd0 rfl) rfl (by show 2 * 0 + _ ≤ _; exact Nat.le_of_eq rfl) (hb hby at_48) (fun _ _ => ⟨rfl, e0, (by decide : 0 + 0 ≤ _), (by decide : 0 + 0 ≤ _)⟩)
    dsimp only [Pt.U, Pt.locs, Pt.cells, Pt.slots] at X8 l8 y8 z8 ls8 hQ8
    subst l8 y8 z8
    obtain ⟨rfl, Nq8, eq8⟩ := hQ8
    have N8 := Fr.app N0 Nq8
    have st9 : own_Go p e below (T8.setTop (mkF m 51 #[iv xf, iv xg, .val (.long xt), .second, .val (.long xq), .second, .val (.long xc), .second, iv bg, iv od, iv v_x, iv v_y, .unset, .unset, .unset, .unset, .unset, .unset, .unset, .unset, .unset, .unset, .unset, .unset, .unset, .unset, .unset, .unset] [(.int (own_mn v_x v_y))])) B0 := fun t kt => st7 t (ls8 t kt)
    obtain ⟨v_b1, h_v_b1⟩ : ∃ z : Int32, z = (own_mn v_x v_y) := ⟨_, rfl⟩
    have st10 : own_Go p e below (T8.setTop (mkF m 57 #[iv xf, iv xg, .val (.long xt), .second, .val (.long xq), .second, .val (.long xc), .second, iv bg, iv od, iv v_x, iv v_y, iv v_b1, .unset, .unset, .unset, .unset, .unset, .unset, .unset, .unset, .unset, .unset, .unset, .unset, .unset, .unset, .unset] [(.int v_y), (.int v_x)])) B0 := fun t kt => st9 t (by
      show own_At p e below T8 m 51 #[iv xf, iv xg, .val (.long xt), .second, .val (.long xq), .second, .val (.long xc), .second, iv bg, iv od, iv v_x, iv v_y, .unset, .unset, .unset, .unset, .unset, .unset, .unset, .unset, .unset, .unset, .unset, .unset, .unset, .unset, .unset, .unset] [(.int (own_mn v_x v_y))] _
      rw [← h_v_b1]
      show own_At p e below T8 m 51 #[iv xf, iv xg, .val (.long xt), .second, .val (.long xq), .second, .val (.long xc), .second, iv bg, iv od, iv v_x, iv v_y, .unset, .unset, .unset, .unset, .unset, .unset, .unset, .unset, .unset, .unset, .unset, .unset, .unset, .unset, .unset, .unset] [(.int v_b1)] _
      refine XS.istore X8.here hx rfl (hb hby at_51) rfl (l' := #[iv xf, iv xg, .val (.long xt), .second, .val (.long xq), .second, .val (.long xc), .second, iv bg, iv od, iv v_x, iv v_y, iv v_b1, .unset, .unset, .unset, .unset, .unset, .unset, .unset, .unset, .unset, .unset, .unset, .unset, .unset, .unset, .unset]) rfl ?_
      show own_At p e below T8 m 53 #[iv xf, iv xg, .val (.long xt), .second, .val (.long xq), .second, .val (.long xc), .second, iv bg, iv od, iv v_x, iv v_y, iv v_b1, .unset, .unset, .unset, .unset, .unset, .unset, .unset, .unset, .unset, .unset, .unset, .unset, .unset, .unset, .unset] [] _
      refine XS.iload X8.here hx rfl (hb hby at_53) rfl ?_
      show own_At p e below T8 m 55 #[iv xf, iv xg, .val (.long xt), .second, .val (.long xq), .second, .val (.long xc), .second, iv bg, iv od, iv v_x, iv v_y, iv v_b1, .unset, .unset, .unset, .unset, .unset, .unset, .unset, .unset, .unset, .unset, .unset, .unset, .unset, .unset, .unset] [(.int v_x)] _
      refine XS.iload X8.here hx rfl (hb hby at_55) rfl ?_
      show own_At p e below T8 m 57 #[iv xf, iv xg, .val (.long xt), .second, .val (.long xq), .second, .val (.long xc), .second, iv bg, iv od, iv v_x, iv v_y, iv v_b1, .unset, .unset, .unset, .unset, .unset, .unset, .unset, .unset, .unset, .unset, .unset, .unset, .unset, .unset, .unset] [(.int v_y), (.int v_x)] _
      exact kt)
    obtain ⟨_, _, ⟨T11, L11, k11, n11⟩, -, X11, ⟨Lc11, hQ11, l11, y11, z11⟩, ls11⟩ := Jvm.LawKit.callS X8 hx (y := (⟨"java/lang/Math", "max", "(II)I"⟩ : MethodName)) hown (mvT hZ (hw _ (List.mem_of_getElem? (i := 4) rfl))) (mvT hZ (hw _ (List.mem_of_getElem? (i := 5) rfl))) (mvT hZ (hw _ (List.mem_of_getElem? (i := 2) rfl))) (mvT hZ (hw _ (List.mem_of_getElem? (i := 6) rfl))) (by decide) (backOf (W := 0) (rm_max l Z a0 hw [] v_x v_y h0 n0 Z0) hZ (hw _ (List.mem_of_getElem? (i := 6) rfl)) (hw _ (List.mem_of_getElem? (i := 2) rfl)) (by decide) (by decide)) (g := (mkF m 57 #[iv xf, iv xg, .val (.long xt), .second, .val (.long xq), .second, .val (.long xc), .second, iv bg, iv od, iv v_x, iv v_y, iv v_b1, .unset, .unset, .unset, .unset, .unset, .unset, .unset, .unset, .unset, .unset, .unset, .unset, .unset, .unset, .unset] [(.int v_y), (.int v_x)])) rfl (by rw [hml]; rfl) (argsL := [(.int v_x), (.int v_y)]) (rest := []) (lenOf own_pd0 rfl) rfl (by show 2 * 0 + _ ≤ _; exact Nat.le_of_eq rfl) (hb hby at_57) (fun _ _ => ⟨rfl, eq8, (by decide : 0 + 0 ≤ _), (by decide : 0 + 0 ≤ _)⟩)
    dsimp only [Pt.U, Pt.locs, Pt.cells, Pt.slots] at X11 l11 y11 z11 ls11 hQ11
    subst l11 y11 z11
    obtain ⟨rfl, Nq11, eq11⟩ := hQ11
    have N11 := Fr.app N8 Nq11
    have st12 : own_Go p e below (T11.setTop (mkF m 60 #[iv xf, iv xg, .val (.long xt), .second, .val (.long xq), .second, .val (.long xc), .second, iv bg, iv od, iv v_x, iv v_y, iv v_b1, .unset, .unset, .unset, .unset, .unset, .unset, .unset, .unset, .unset, .unset, .unset, .unset, .unset, .unset, .unset] [(.int (own_max v_x v_y))])) B0 := fun t kt => st10 t (ls11 t kt)
    obtain ⟨v_b2, h_v_b2⟩ : ∃ z : Int32, z = (own_max v_x v_y) := ⟨_, rfl⟩
    obtain ⟨v_f1, h_v_f1⟩ : ∃ z : Int32, z = (xq.toInt32) := ⟨_, rfl⟩
    obtain ⟨v_f2, h_v_f2⟩ : ∃ z : Int32, z = (((xq.toUInt64 >>> ((32 : Int32) &&& 0x3f).toInt64.toUInt64).toInt64).toInt32) := ⟨_, rfl⟩
    obtain ⟨v_c, h_v_c⟩ : ∃ z : Int32, z = (xc.toInt32) := ⟨_, rfl⟩
    obtain ⟨v_fc, h_v_fc⟩ : ∃ z : Int32, z = (((xc.toUInt64 >>> ((32 : Int32) &&& 0x3f).toInt64.toUInt64).toInt64).toInt32) := ⟨_, rfl⟩
    have st13 : own_Go p e below (T11.setTop (mkF m 89 #[iv xf, iv xg, .val (.long xt), .second, .val (.long xq), .second, .val (.long xc), .second, iv bg, iv od, iv v_x, iv v_y, iv v_b1, iv v_b2, iv v_f1, iv v_f2, iv v_c, iv v_fc, .unset, .unset, .unset, .unset, .unset, .unset, .unset, .unset, .unset, .unset] [(.int (3 : Int32))])) B0 := fun t kt => st12 t (by
      show own_At p e below T11 m 60 #[iv xf, iv xg, .val (.long xt), .second, .val (.long xq), .second, .val (.long xc), .second, iv bg, iv od, iv v_x, iv v_y, iv v_b1, .unset, .unset, .unset, .unset, .unset, .unset, .unset, .unset, .unset, .unset, .unset, .unset, .unset, .unset, .unset] [(.int (own_max v_x v_y))] _
      rw [← h_v_b2]
      show own_At p e below T11 m 60 #[iv xf, iv xg, .val (.long xt), .second, .val (.long xq), .second, .val (.long xc), .second, iv bg, iv od, iv v_x, iv v_y, iv v_b1, .unset, .unset, .unset, .unset, .unset, .unset, .unset, .unset, .unset, .unset, .unset, .unset, .unset, .unset, .unset] [(.int v_b2)] _
      refine XS.istore X11.here hx rfl (hb hby at_60) rfl (l' := #[iv xf, iv xg, .val (.long xt), .second, .val (.long xq), .second, .val (.long xc), .second, iv bg, iv od, iv v_x, iv v_y, iv v_b1, iv v_b2, .unset, .unset, .unset, .unset, .unset, .unset, .unset, .unset, .unset, .unset, .unset, .unset, .unset, .unset]) rfl ?_
      show own_At p e below T11 m 62 #[iv xf, iv xg, .val (.long xt), .second, .val (.long xq), .second, .val (.long xc), .second, iv bg, iv od, iv v_x, iv v_y, iv v_b1, iv v_b2, .unset, .unset, .unset, .unset, .unset, .unset, .unset, .unset, .unset, .unset, .unset, .unset, .unset, .unset] [] _
      refine XS.lload X11.here hx rfl (hb hby at_62) rfl ?_
      show own_At p e below T11 m 64 #[iv xf, iv xg, .val (.long xt), .second, .val (.long xq), .second, .val (.long xc), .second, iv bg, iv od, iv v_x, iv v_y, iv v_b1, iv v_b2, .unset, .unset, .unset, .unset, .unset, .unset, .unset, .unset, .unset, .unset, .unset, .unset, .unset, .unset] [(.long xq)] _
      refine XS.l2i X11.here hx rfl (hb hby at_64) rfl ?_
      show own_At p e below T11 m 65 #[iv xf, iv xg, .val (.long xt), .second, .val (.long xq), .second, .val (.long xc), .second, iv bg, iv od, iv v_x, iv v_y, iv v_b1, iv v_b2, .unset, .unset, .unset, .unset, .unset, .unset, .unset, .unset, .unset, .unset, .unset, .unset, .unset, .unset] [(.int (xq.toInt32))] _
      rw [← h_v_f1]
      show own_At p e below T11 m 65 #[iv xf, iv xg, .val (.long xt), .second, .val (.long xq), .second, .val (.long xc), .second, iv bg, iv od, iv v_x, iv v_y, iv v_b1, iv v_b2, .unset, .unset, .unset, .unset, .unset, .unset, .unset, .unset, .unset, .unset, .unset, .unset, .unset, .unset] [(.int v_f1)] _
      refine XS.istore X11.here hx rfl (hb hby at_65) rfl (l' := #[iv xf, iv xg, .val (.long xt), .second, .val (.long xq), .second, .val (.long xc), .second, iv bg, iv od, iv v_x, iv v_y, iv v_b1, iv v_b2, iv v_f1, .unset, .unset, .unset, .unset, .unset, .unset, .unset, .unset, .unset, .unset, .unset, .unset, .unset]) rfl ?_
      show own_At p e below T11 m 67 #[iv xf, iv xg, .val (.long xt), .second, .val (.long xq), .second, .val (.long xc), .second, iv bg, iv od, iv v_x, iv v_y, iv v_b1, iv v_b2, iv v_f1, .unset, .unset, .unset, .unset, .unset, .unset, .unset, .unset, .unset, .unset, .unset, .unset, .unset] [] _
      refine XS.lload X11.here hx rfl (hb hby at_67) rfl ?_
      show own_At p e below T11 m 69 #[iv xf, iv xg, .val (.long xt), .second, .val (.long xq), .second, .val (.long xc), .second, iv bg, iv od, iv v_x, iv v_y, iv v_b1, iv v_b2, iv v_f1, .unset, .unset, .unset, .unset, .unset, .unset, .unset, .unset, .unset, .unset, .unset, .unset, .unset] [(.long xq)] _
      refine XS.bipush X11.here hx rfl (hb hby at_69) ?_
      show own_At p e below T11 m 71 #[iv xf, iv xg, .val (.long xt), .second, .val (.long xq), .second, .val (.long xc), .second, iv bg, iv od, iv v_x, iv v_y, iv v_b1, iv v_b2, iv v_f1, .unset, .unset, .unset, .unset, .unset, .unset, .unset, .unset, .unset, .unset, .unset, .unset, .unset] [(.int (32 : Int32)), (.long xq)] _
      refine XS.lushr X11.here hx rfl (hb hby at_71) rfl ?_
      show own_At p e below T11 m 72 #[iv xf, iv xg, .val (.long xt), .second, .val (.long xq), .second, .val (.long xc), .second, iv bg, iv od, iv v_x, iv v_y, iv v_b1, iv v_b2, iv v_f1, .unset, .unset, .unset, .unset, .unset, .unset, .unset, .unset, .unset, .unset, .unset, .unset, .unset] [(.long ((xq.toUInt64 >>> ((32 : Int32) &&& 0x3f).toInt64.toUInt64).toInt64))] _
      refine XS.l2i X11.here hx rfl (hb hby at_72) rfl ?_
      show own_At p e below T11 m 73 #[iv xf, iv xg, .val (.long xt), .second, .val (.long xq), .second, .val (.long xc), .second, iv bg, iv od, iv v_x, iv v_y, iv v_b1, iv v_b2, iv v_f1, .unset, .unset, .unset, .unset, .unset, .unset, .unset, .unset, .unset, .unset, .unset, .unset, .unset] [(.int (((xq.toUInt64 >>> ((32 : Int32) &&& 0x3f).toInt64.toUInt64).toInt64).toInt32))] _
      rw [← h_v_f2]
      show own_At p e below T11 m 73 #[iv xf, iv xg, .val (.long xt), .second, .val (.long xq), .second, .val (.long xc), .second, iv bg, iv od, iv v_x, iv v_y, iv v_b1, iv v_b2, iv v_f1, .unset, .unset, .unset, .unset, .unset, .unset, .unset, .unset, .unset, .unset, .unset, .unset, .unset] [(.int v_f2)] _
      refine XS.istore X11.here hx rfl (hb hby at_73) rfl (l' := #[iv xf, iv xg, .val (.long xt), .second, .val (.long xq), .second, .val (.long xc), .second, iv bg, iv od, iv v_x, iv v_y, iv v_b1, iv v_b2, iv v_f1, iv v_f2, .unset, .unset, .unset, .unset, .unset, .unset, .unset, .unset, .unset, .unset, .unset, .unset]) rfl ?_
      show own_At p e below T11 m 75 #[iv xf, iv xg, .val (.long xt), .second, .val (.long xq), .second, .val (.long xc), .second, iv bg, iv od, iv v_x, iv v_y, iv v_b1, iv v_b2, iv v_f1, iv v_f2, .unset, .unset, .unset, .unset, .unset, .unset, .unset, .unset, .unset, .unset, .unset, .unset] [] _
      refine XS.lload X11.here hx rfl (hb hby at_75) rfl ?_
      show own_At p e below T11 m 77 #[iv xf, iv xg, .val (.long xt), .second, .val (.long xq), .second, .val (.long xc), .second, iv bg, iv od, iv v_x, iv v_y, iv v_b1, iv v_b2, iv v_f1, iv v_f2, .unset, .unset, .unset, .unset, .unset, .unset, .unset, .unset, .unset, .unset, .unset, .unset] [(.long xc)] _
      refine XS.l2i X11.here hx rfl (hb hby at_77) rfl ?_
      show own_At p e below T11 m 78 #[iv xf, iv xg, .val (.long xt), .second, .val (.long xq), .second, .val (.long xc), .second, iv bg, iv od, iv v_x, iv v_y, iv v_b1, iv v_b2, iv v_f1, iv v_f2, .unset, .unset, .unset, .unset, .unset, .unset, .unset, .unset, .unset, .unset, .unset, .unset] [(.int (xc.toInt32))] _
      rw [← h_v_c]
      show own_At p e below T11 m 78 #[iv xf, iv xg, .val (.long xt), .second, .val (.long xq), .second, .val (.long xc), .second, iv bg, iv od, iv v_x, iv v_y, iv v_b1, iv v_b2, iv v_f1, iv v_f2, .unset, .unset, .unset, .unset, .unset, .unset, .unset, .unset, .unset, .unset, .unset, .unset] [(.int v_c)] _
      refine XS.istore X11.here hx rfl (hb hby at_78) rfl (l' := #[iv xf, iv xg, .val (.long xt), .second, .val (.long xq), .second, .val (.long xc), .second, iv bg, iv od, iv v_x, iv v_y, iv v_b1, iv v_b2, iv v_f1, iv v_f2, iv v_c, .unset, .unset, .unset, .unset, .unset, .unset, .unset, .unset, .unset, .unset, .unset]) rfl ?_
      show own_At p e below T11 m 80 #[iv xf, iv xg, .val (.long xt), .second, .val (.long xq), .second, .val (.long xc), .second, iv bg, iv od, iv v_x, iv v_y, iv v_b1, iv v_b2, iv v_f1, iv v_f2, iv v_c, .unset, .unset, .unset, .unset, .unset, .unset, .unset, .unset, .unset, .unset, .unset] [] _
      refine XS.lload X11.here hx rfl (hb hby at_80) rfl ?_
      show own_At p e below T11 m 82 #[iv xf, iv xg, .val (.long xt), .second, .val (.long xq), .second, .val (.long xc), .second, iv bg, iv od, iv v_x, iv v_y, iv v_b1, iv v_b2, iv v_f1, iv v_f2, iv v_c, .unset, .unset, .unset, .unset, .unset, .unset, .unset, .unset, .unset, .unset, .unset] [(.long xc)] _
      refine XS.bipush X11.here hx rfl (hb hby at_82) ?_
      show own_At p e below T11 m 84 #[iv xf, iv xg, .val (.long xt), .second, .val (.long xq), .second, .val (.long xc), .second, iv bg, iv od, iv v_x, iv v_y, iv v_b1, iv v_b2, iv v_f1, iv v_f2, iv v_c, .unset, .unset, .unset, .unset, .unset, .unset, .unset, .unset, .unset, .unset, .unset] [(.int (32 : Int32)), (.long xc)] _
      refine XS.lushr X11.here hx rfl (hb hby at_84) rfl ?_
      show own_At p e below T11 m 85 #[iv xf, iv xg, .val (.long xt), .second, .val (.long xq), .second, .val (.long xc), .second, iv bg, iv od, iv v_x, iv v_y, iv v_b1, iv v_b2, iv v_f1, iv v_f2, iv v_c, .unset, .unset, .unset, .unset, .unset, .unset, .unset, .unset, .unset, .unset, .unset] [(.long ((xc.toUInt64 >>> ((32 : Int32) &&& 0x3f).toInt64.toUInt64).toInt64))] _
      refine XS.l2i X11.here hx rfl (hb hby at_85) rfl ?_
      show own_At p e below T11 m 86 #[iv xf, iv xg, .val (.long xt), .second, .val (.long xq), .second, .val (.long xc), .second, iv bg, iv od, iv v_x, iv v_y, iv v_b1, iv v_b2, iv v_f1, iv v_f2, iv v_c, .unset, .unset, .unset, .unset, .unset, .unset, .unset, .unset, .unset, .unset, .unset] [(.int (((xc.toUInt64 >>> ((32 : Int32) &&& 0x3f).toInt64.toUInt64).toInt64).toInt32))] _
      rw [← h_v_fc]
      show own_At p e below T11 m 86 #[iv xf, iv xg, .val (.long xt), .second, .val (.long xq), .second, .val (.long xc), .second, iv bg, iv od, iv v_x, iv v_y, iv v_b1, iv v_b2, iv v_f1, iv v_f2, iv v_c, .unset, .unset, .unset, .unset, .unset, .unset, .unset, .unset, .unset, .unset, .unset] [(.int v_fc)] _
      refine XS.istore X11.here hx rfl (hb hby at_86) rfl (l' := #[iv xf, iv xg, .val (.long xt), .second, .val (.long xq), .second, .val (.long xc), .second, iv bg, iv od, iv v_x, iv v_y, iv v_b1, iv v_b2, iv v_f1, iv v_f2, iv v_c, iv v_fc, .unset, .unset, .unset, .unset, .unset, .unset, .unset, .unset, .unset, .unset]) rfl ?_
      show own_At p e below T11 m 88 #[iv xf, iv xg, .val (.long xt), .second, .val (.long xq), .second, .val (.long xc), .second, iv bg, iv od, iv v_x, iv v_y, iv v_b1, iv v_b2, iv v_f1, iv v_f2, iv v_c, iv v_fc, .unset, .unset, .unset, .unset, .unset, .unset, .unset, .unset, .unset, .unset] [] _
      refine XS.iconst X11.here hx rfl (hb hby at_88) ?_
      show own_At p e below T11 m 89 #[iv xf, iv xg, .val (.long xt), .second, .val (.long xq), .second, .val (.long xc), .second, iv bg, iv od, iv v_x, iv v_y, iv v_b1, iv v_b2, iv v_f1, iv v_f2, iv v_c, iv v_fc, .unset, .unset, .unset, .unset, .unset, .unset, .unset, .unset, .unset, .unset] [(.int (3 : Int32))] _
      exact kt)
    obtain ⟨T14, h14, c14, X14, e14, E14, A14, ls14⟩ := newP X11 hx hZ (hw _ (List.mem_of_getElem? (i := 7) rfl)) eq11 (g := (mkF m 89 #[iv xf, iv xg, .val (.long xt), .second, .val (.long xq), .second, .val (.long xc), .second, iv bg, iv od, iv v_x, iv v_y, iv v_b1, iv v_b2, iv v_f1, iv v_f2, iv v_c, iv v_fc, .unset, .unset, .unset, .unset, .unset, .unset, .unset, .unset, .unset, .unset] [(.int (3 : Int32))])) rfl (hb hby at_89) rfl (by decide) (cap := 3) (by decide) (by decide) (by decide) (by decide)
    obtain ⟨b1, g14⟩ : ∃ z, z = h0.size := ⟨_, rfl⟩
    rw [← g14] at A14 ls14
    have g_b1 : n0 ≤ b1 := Nat.le_trans Z0 (Nat.le_of_eq g14.symm)
    have z15 := Nat.le_trans Z0 E14.1
    have f16 : own_Av Z h14 b1 .int 3 (fun _ => (.int (0 : Int32))) := own_Av.new A14 (by decide) (by decide)
    have st17 : own_Go p e below (T14.setTop (mkF m 91 #[iv xf, iv xg, .val (.long xt), .second, .val (.long xq), .second, .val (.long xc), .second, iv bg, iv od, iv v_x, iv v_y, iv v_b1, iv v_b2, iv v_f1, iv v_f2, iv v_c, iv v_fc, .unset, .unset, .unset, .unset, .unset, .unset, .unset, .unset, .unset, .unset] [(.ref b1)])) B0 := fun t kt => st13 t (ls14 t kt)
    have st18 : own_Go p e below (T14.setTop (mkF m 95 #[iv xf, iv xg, .val (.long xt), .second, .val (.long xq), .second, .val (.long xc), .second, iv bg, iv od, iv v_x, iv v_y, iv v_b1, iv v_b2, iv v_f1, iv v_f2, iv v_c, iv v_fc, .unset, .unset, .unset, .unset, .unset, .unset, .unset, .unset, .unset, .unset] [(.int bg), (.int (0 : Int32)), (.ref b1), (.ref b1)])) B0 := fun t kt => st17 t (by
      show own_At p e below T14 m 91 #[iv xf, iv xg, .val (.long xt), .second, .val (.long xq), .second, .val (.long xc), .second, iv bg, iv od, iv v_x, iv v_y, iv v_b1, iv v_b2, iv v_f1, iv v_f2, iv v_c, iv v_fc, .unset, .unset, .unset, .unset, .unset, .unset, .unset, .unset, .unset, .unset] [(.ref b1)] _
      refine XS.dup X14.here hx rfl (hb hby at_91) rfl rfl ?_
      show own_At p e below T14 m 92 #[iv xf, iv xg, .val (.long xt), .second, .val (.long xq), .second, .val (.long xc), .second, iv bg, iv od, iv v_x, iv v_y, iv v_b1, iv v_b2, iv v_f1, iv v_f2, iv v_c, iv v_fc, .unset, .unset, .unset, .unset, .unset, .unset, .unset, .unset, .unset, .unset] [(.ref b1), (.ref b1)] _
      refine XS.iconst X14.here hx rfl (hb hby at_92) ?_
      show own_At p e below T14 m 93 #[iv xf, iv xg, .val (.long xt), .second, .val (.long xq), .second, .val (.long xc), .second, iv bg, iv od, iv v_x, iv v_y, iv v_b1, iv v_b2, iv v_f1, iv v_f2, iv v_c, iv v_fc, .unset, .unset, .unset, .unset, .unset, .unset, .unset, .unset, .unset, .unset] [(.int (0 : Int32)), (.ref b1), (.ref b1)] _
      refine XS.iload X14.here hx rfl (hb hby at_93) rfl ?_
      show own_At p e below T14 m 95 #[iv xf, iv xg, .val (.long xt), .second, .val (.long xq), .second, .val (.long xc), .second, iv bg, iv od, iv v_x, iv v_y, iv v_b1, iv v_b2, iv v_f1, iv v_f2, iv v_c, iv v_fc, .unset, .unset, .unset, .unset, .unset, .unset, .unset, .unset, .unset, .unset] [(.int bg), (.int (0 : Int32)), (.ref b1), (.ref b1)] _
      exact kt)
    by_cases q1 : bg = (0 : Int32)
    · have st19 : own_Go p e below (T14.setTop (mkF m 105 #[iv xf, iv xg, .val (.long xt), .second, .val (.long xq), .second, .val (.long xc), .second, iv bg, iv od, iv v_x, iv v_y, iv v_b1, iv v_b2, iv v_f1, iv v_f2, iv v_c, iv v_fc, .unset, .unset, .unset, .unset, .unset, .unset, .unset, .unset, .unset, .unset] [(.int (1 : Int32)), (.int (0 : Int32)), (.ref b1), (.ref b1)])) B0 := fun t kt => st18 t (by
        show own_At p e below T14 m 95 #[iv xf, iv xg, .val (.long xt), .second, .val (.long xq), .second, .val (.long xc), .second, iv bg, iv od, iv v_x, iv v_y, iv v_b1, iv v_b2, iv v_f1, iv v_f2, iv v_c, iv v_fc, .unset, .unset, .unset, .unset, .unset, .unset, .unset, .unset, .unset, .unset] [(.int bg), (.int (0 : Int32)), (.ref b1), (.ref b1)] _
        refine XS.ifYes X14.here hx rfl (pc0 := 95) (pc' := 104) rfl (hb hby at_95) rfl ((if0 _ _).trans (teq q1).1) (by decide) (by decide) ?_
        show own_At p e below T14 m 104 #[iv xf, iv xg, .val (.long xt), .second, .val (.long xq), .second, .val (.long xc), .second, iv bg, iv od, iv v_x, iv v_y, iv v_b1, iv v_b2, iv v_f1, iv v_f2, iv v_c, iv v_fc, .unset, .unset, .unset, .unset, .unset, .unset, .unset, .unset, .unset, .unset] [(.int (0 : Int32)), (.ref b1), (.ref b1)] _
        refine XS.iconst X14.here hx rfl (hb hby at_104) ?_
        show own_At p e below T14 m 105 #[iv xf, iv xg, .val (.long xt), .second, .val (.long xq), .second, .val (.long xc), .second, iv bg, iv od, iv v_x, iv v_y, iv v_b1, iv v_b2, iv v_f1, iv v_f2, iv v_c, iv v_fc, .unset, .unset, .unset, .unset, .unset, .unset, .unset, .unset, .unset, .unset] [(.int (1 : Int32)), (.int (0 : Int32)), (.ref b1), (.ref b1)] _
        exact kt)
      obtain ⟨T20, h20, X20, e20, W20, B20, ls20⟩ := own_iastore X14 hx hZ e14 f16 (j := (0 : Int32)) (i := 0) (by decide) (by decide) (by decide) (g := (mkF m 105 #[iv xf, iv xg, .val (.long xt), .second, .val (.long xq), .second, .val (.long xc), .second, iv bg, iv od, iv v_x, iv v_y, iv v_b1, iv v_b2, iv v_f1, iv v_f2, iv v_c, iv v_fc, .unset, .unset, .unset, .unset, .unset, .unset, .unset, .unset, .unset, .unset] [(.int (1 : Int32)), (.int (0 : Int32)), (.ref b1), (.ref b1)])) rfl rfl (hb hby at_105)
      have N20 := Fr.snoc X20 N11 g_b1
      have z21 := Nat.le_trans z15 (Keep.of_wr W20).1
      have f22 := B20
      have st23 : own_Go p e below (T20.setTop (mkF m 106 #[iv xf, iv xg, .val (.long xt), .second, .val (.long xq), .second, .val (.long xc), .second, iv bg, iv od, iv v_x, iv v_y, iv v_b1, iv v_b2, iv v_f1, iv v_f2, iv v_c, iv v_fc, .unset, .unset, .unset, .unset, .unset, .unset, .unset, .unset, .unset, .unset] [(.ref b1)])) B0 := fun t kt => st19 t (ls20 t kt)
      have st24 : own_Go p e below (T20.setTop (mkF m 109 #[iv xf, iv xg, .val (.long xt), .second, .val (.long xq), .second, .val (.long xc), .second, iv bg, iv od, iv v_x, iv v_y, iv v_b1, iv v_b2, iv v_f1, iv v_f2, iv v_c, iv v_fc, .unset, .unset, .unset, .unset, .unset, .unset, .unset, .unset, .unset, .unset] [(.int (2 : Int32)), (.int (1 : Int32)), (.ref b1), (.ref b1)])) B0 := fun t kt => st23 t (by
        show own_At p e below T20 m 106 #[iv xf, iv xg, .val (.long xt), .second, .val (.long xq), .second, .val (.long xc), .second, iv bg, iv od, iv v_x, iv v_y, iv v_b1, iv v_b2, iv v_f1, iv v_f2, iv v_c, iv v_fc, .unset, .unset, .unset, .unset, .unset, .unset, .unset, .unset, .unset, .unset] [(.ref b1)] _
        refine XS.dup X20.here hx rfl (hb hby at_106) rfl rfl ?_
        show own_At p e below T20 m 107 #[iv xf, iv xg, .val (.long xt), .second, .val (.long xq), .second, .val (.long xc), .second, iv bg, iv od, iv v_x, iv v_y, iv v_b1, iv v_b2, iv v_f1, iv v_f2, iv v_c, iv v_fc, .unset, .unset, .unset, .unset, .unset, .unset, .unset, .unset, .unset, .unset] [(.ref b1), (.ref b1)] _
        refine XS.iconst X20.here hx rfl (hb hby at_107) ?_
        show own_At p e below T20 m 108 #[iv xf, iv xg, .val (.long xt), .second, .val (.long xq), .second, .val (.long xc), .second, iv bg, iv od, iv v_x, iv v_y, iv v_b1, iv v_b2, iv v_f1, iv v_f2, iv v_c, iv v_fc, .unset, .unset, .unset, .unset, .unset, .unset, .unset, .unset, .unset, .unset] [(.int (1 : Int32)), (.ref b1), (.ref b1)] _
        refine XS.iconst X20.here hx rfl (hb hby at_108) ?_
        show own_At p e below T20 m 109 #[iv xf, iv xg, .val (.long xt), .second, .val (.long xq), .second, .val (.long xc), .second, iv bg, iv od, iv v_x, iv v_y, iv v_b1, iv v_b2, iv v_f1, iv v_f2, iv v_c, iv v_fc, .unset, .unset, .unset, .unset, .unset, .unset, .unset, .unset, .unset, .unset] [(.int (2 : Int32)), (.int (1 : Int32)), (.ref b1), (.ref b1)] _
        exact kt)
      obtain ⟨T25, h25, X25, e25, W25, B25, ls25⟩ := own_iastore X20 hx hZ e20 f22 (j := (1 : Int32)) (i := 1) (by decide) (by decide) (by decide) (g := (mkF m 109 #[iv xf, iv xg, .val (.long xt), .second, .val (.long xq), .second, .val (.long xc), .second, iv bg, iv od, iv v_x, iv v_y, iv v_b1, iv v_b2, iv v_f1, iv v_f2, iv v_c, iv v_fc, .unset, .unset, .unset, .unset, .unset, .unset, .unset, .unset, .unset, .unset] [(.int (2 : Int32)), (.int (1 : Int32)), (.ref b1), (.ref b1)])) rfl rfl (hb hby at_109)
      have N25 := Fr.snoc X25 N20 g_b1
      have z26 := Nat.le_trans z21 (Keep.of_wr W25).1
      have f27 := B25
      have st28 : own_Go p e below (T25.setTop (mkF m 110 #[iv xf, iv xg, .val (.long xt), .second, .val (.long xq), .second, .val (.long xc), .second, iv bg, iv od, iv v_x, iv v_y, iv v_b1, iv v_b2, iv v_f1, iv v_f2, iv v_c, iv v_fc, .unset, .unset, .unset, .unset, .unset, .unset, .unset, .unset, .unset, .unset] [(.ref b1)])) B0 := fun t kt => st24 t (ls25 t kt)
      have st29 : own_Go p e below (T25.setTop (mkF m 113 #[iv xf, iv xg, .val (.long xt), .second, .val (.long xq), .second, .val (.long xc), .second, iv bg, iv od, iv v_x, iv v_y, iv v_b1, iv v_b2, iv v_f1, iv v_f2, iv v_c, iv v_fc, .unset, .unset, .unset, .unset, .unset, .unset, .unset, .unset, .unset, .unset] [(.int (1 : Int32)), (.int (2 : Int32)), (.ref b1), (.ref b1)])) B0 := fun t kt => st28 t (by
        show own_At p e below T25 m 110 #[iv xf, iv xg, .val (.long xt), .second, .val (.long xq), .second, .val (.long xc), .second, iv bg, iv od, iv v_x, iv v_y, iv v_b1, iv v_b2, iv v_f1, iv v_f2, iv v_c, iv v_fc, .unset, .unset, .unset, .unset, .unset, .unset, .unset, .unset, .unset, .unset] [(.ref b1)] _
        refine XS.dup X25.here hx rfl (hb hby at_110) rfl rfl ?_
        show own_At p e below T25 m 111 #[iv xf, iv xg, .val (.long xt), .second, .val (.long xq), .second, .val (.long xc), .second, iv bg, iv od, iv v_x, iv v_y, iv v_b1, iv v_b2, iv v_f1, iv v_f2, iv v_c, iv v_fc, .unset, .unset, .unset, .unset, .unset, .unset, .unset, .unset, .unset, .unset] [(.ref b1), (.ref b1)] _
        refine XS.iconst X25.here hx rfl (hb hby at_111) ?_
        show own_At p e below T25 m 112 #[iv xf, iv xg, .val (.long xt), .second, .val (.long xq), .second, .val (.long xc), .second, iv bg, iv od, iv v_x, iv v_y, iv v_b1, iv v_b2, iv v_f1, iv v_f2, iv v_c, iv v_fc, .unset, .unset, .unset, .unset, .unset, .unset, .unset, .unset, .unset, .unset] [(.int (2 : Int32)), (.ref b1), (.ref b1)] _
        refine XS.iconst X25.here hx rfl (hb hby at_112) ?_
        show own_At p e below T25 m 113 #[iv xf, iv xg, .val (.long xt), .second, .val (.long xq), .second, .val (.long xc), .second, iv bg, iv od, iv v_x, iv v_y, iv v_b1, iv v_b2, iv v_f1, iv v_f2, iv v_c, iv v_fc, .unset, .unset, .unset, .unset, .unset, .unset, .unset, .unset, .unset, .unset] [(.int (1 : Int32)), (.int (2 : Int32)), (.ref b1), (.ref b1)] _
        exact kt)
      obtain ⟨T30, h30, X30, e30, W30, B30, ls30⟩ := own_iastore X25 hx hZ e25 f27 (j := (2 : Int32)) (i := 2) (by decide) (by decide) (by decide) (g := (mkF m 113 #[iv xf, iv xg, .val (.long xt), .second, .val (.long xq), .second, .val (.long xc), .second, iv bg, iv od, iv v_x, iv v_y, iv v_b1, iv v_b2, iv v_f1, iv v_f2, iv v_c, iv v_fc, .unset, .unset, .unset, .unset, .unset, .unset, .unset, .unset, .unset, .unset] [(.int (1 : Int32)), (.int (2 : Int32)), (.ref b1), (.ref b1)])) rfl rfl (hb hby at_113)
      have N30 := Fr.snoc X30 N25 g_b1
      have z31 := Nat.le_trans z26 (Keep.of_wr W30).1
      have f32 := B30
      have st33 : own_Go p e below (T30.setTop (mkF m 114 #[iv xf, iv xg, .val (.long xt), .second, .val (.long xq), .second, .val (.long xc), .second, iv bg, iv od, iv v_x, iv v_y, iv v_b1, iv v_b2, iv v_f1, iv v_f2, iv v_c, iv v_fc, .unset, .unset, .unset, .unset, .unset, .unset, .unset, .unset, .unset, .unset] [(.ref b1)])) B0 := fun t kt => st29 t (ls30 t kt)
      have st34 : own_Go p e below (T30.setTop (mkF m 116 #[iv xf, iv xg, .val (.long xt), .second, .val (.long xq), .second, .val (.long xc), .second, iv bg, iv od, iv v_x, iv v_y, iv v_b1, iv v_b2, iv v_f1, iv v_f2, iv v_c, iv v_fc, rv b1, .unset, .unset, .unset, .unset, .unset, .unset, .unset, .unset, .unset] [])) B0 := fun t kt => st33 t (by
        show own_At p e below T30 m 114 #[iv xf, iv xg, .val (.long xt), .second, .val (.long xq), .second, .val (.long xc), .second, iv bg, iv od, iv v_x, iv v_y, iv v_b1, iv v_b2, iv v_f1, iv v_f2, iv v_c, iv v_fc, .unset, .unset, .unset, .unset, .unset, .unset, .unset, .unset, .unset, .unset] [(.ref b1)] _
        refine XS.astore X30.here hx rfl (hb hby at_114) rfl rfl (l' := #[iv xf, iv xg, .val (.long xt), .second, .val (.long xq), .second, .val (.long xc), .second, iv bg, iv od, iv v_x, iv v_y, iv v_b1, iv v_b2, iv v_f1, iv v_f2, iv v_c, iv v_fc, rv b1, .unset, .unset, .unset, .unset, .unset, .unset, .unset, .unset, .unset]) rfl ?_
        show own_At p e below T30 m 116 #[iv xf, iv xg, .val (.long xt), .second, .val (.long xq), .second, .val (.long xc), .second, iv bg, iv od, iv v_x, iv v_y, iv v_b1, iv v_b2, iv v_f1, iv v_f2, iv v_c, iv v_fc, rv b1, .unset, .unset, .unset, .unset, .unset, .unset, .unset, .unset, .unset] [] _
        exact kt)
      obtain ⟨T35, h35, X35, e35, E35, A35, D35, -, ls35⟩ := newO X30 hx hZ hown (hw _ (List.mem_of_getElem? (i := 8) rfl)) (hw _ (List.mem_of_getElem? (i := 9) rfl)) (hw _ (List.mem_of_getElem? (i := 10) rfl)) e30 (g := (mkF m 116 #[iv xf, iv xg, .val (.long xt), .second, .val (.long xq), .second, .val (.long xc), .second, iv bg, iv od, iv v_x, iv v_y, iv v_b1, iv v_b2, iv v_f1, iv v_f2, iv v_c, iv v_fc, rv b1, .unset, .unset, .unset, .unset, .unset, .unset, .unset, .unset, .unset] [])) rfl (hb hby at_116) (by decide) (by decide)
      obtain ⟨b2, g35⟩ : ∃ z, z = h30.size := ⟨_, rfl⟩
      rw [← g35] at A35 D35 ls35
      have ne_b1_b2 : b1 ≠ b2 := Nat.ne_of_lt (Nat.lt_of_lt_of_le f32.lt (Nat.le_of_eq g35.symm))
      have g_b2 : n0 ≤ b2 := Nat.le_trans z31 (Nat.le_of_eq g35.symm)
      have f36 := f32.ext E35
      have z37 := Nat.le_trans z31 E35.1
      have f38 : Fld Z h35 b2 "com/example/ranked_text_search/rankedtextsearch/MemoryTermVectors" "terms" "[Ljava/lang/String;" .null := D35 (Or.inr (hw _ (List.mem_of_getElem? (i := 18) rfl))) (ty := (.array (.object "java/lang/String"))) (by decide)
      have f39 : Fld Z h35 b2 "com/example/ranked_text_search/rankedtextsearch/MemoryTermVectors" "from" "I" (.int (0 : Int32)) := D35 (Or.inr (hw _ (List.mem_of_getElem? (i := 20) rfl))) (ty := .int) (by decide)
      have f40 : Fld Z h35 b2 "com/example/ranked_text_search/rankedtextsearch/MemoryTermVectors" "starts" "[I" .null := D35 (Or.inr (hw _ (List.mem_of_getElem? (i := 22) rfl))) (ty := (.array .int)) (by decide)
      have f41 : Fld Z h35 b2 "com/example/ranked_text_search/rankedtextsearch/MemoryTermVectors" "termNumbers" "[[I" .null := D35 (Or.inr (hw _ (List.mem_of_getElem? (i := 32) rfl))) (ty := (.array (.array .int))) (by decide)
      have f42 : Fld Z h35 b2 "com/example/ranked_text_search/rankedtextsearch/MemoryTermVectors" "frequencies" "[[I" .null := D35 (Or.inr (hw _ (List.mem_of_getElem? (i := 34) rfl))) (ty := (.array (.array .int))) (by decide)
      have f43 : Fld Z h35 b2 "com/example/ranked_text_search/rankedtextsearch/MemoryTermVectors" "next" "[I" .null := D35 (Or.inr (hw _ (List.mem_of_getElem? (i := 45) rfl))) (ty := (.array .int)) (by decide)
      have st44 : own_Go p e below (T35.setTop (mkF m 119 #[iv xf, iv xg, .val (.long xt), .second, .val (.long xq), .second, .val (.long xc), .second, iv bg, iv od, iv v_x, iv v_y, iv v_b1, iv v_b2, iv v_f1, iv v_f2, iv v_c, iv v_fc, rv b1, .unset, .unset, .unset, .unset, .unset, .unset, .unset, .unset, .unset] [(.ref b2)])) B0 := fun t kt => st34 t (ls35 t kt)
      have d3 : (xf + 3) - xf = 3 := by grind
      have d1 : (xf + 1) - xf = 1 := by grind
      have d2 : (xf + 2) - xf = 2 := by grind
      have st45 : own_Go p e below (T35.setTop (mkF m 130 #[iv xf, iv xg, .val (.long xt), .second, .val (.long xq), .second, .val (.long xc), .second, iv bg, iv od, iv v_x, iv v_y, iv v_b1, iv v_b2, iv v_f1, iv v_f2, iv v_c, iv v_fc, rv b1, .unset, .unset, .unset, .unset, .unset, .unset, .unset, .unset, .unset] [(.int (xf + (3 : Int32))), (.ref b1), (.int xf), .null, (.ref b2), (.ref b2)])) B0 := fun t kt => st44 t (by
        show own_At p e below T35 m 119 #[iv xf, iv xg, .val (.long xt), .second, .val (.long xq), .second, .val (.long xc), .second, iv bg, iv od, iv v_x, iv v_y, iv v_b1, iv v_b2, iv v_f1, iv v_f2, iv v_c, iv v_fc, rv b1, .unset, .unset, .unset, .unset, .unset, .unset, .unset, .unset, .unset] [(.ref b2)] _
        refine XS.dup X35.here hx rfl (hb hby at_119) rfl rfl ?_
        show own_At p e below T35 m 120 #[iv xf, iv xg, .val (.long xt), .second, .val (.long xq), .second, .val (.long xc), .second, iv bg, iv od, iv v_x, iv v_y, iv v_b1, iv v_b2, iv v_f1, iv v_f2, iv v_c, iv v_fc, rv b1, .unset, .unset, .unset, .unset, .unset, .unset, .unset, .unset, .unset] [(.ref b2), (.ref b2)] _
        refine XS.aconstNull X35.here hx rfl (hb hby at_120) ?_
        show own_At p e below T35 m 121 #[iv xf, iv xg, .val (.long xt), .second, .val (.long xq), .second, .val (.long xc), .second, iv bg, iv od, iv v_x, iv v_y, iv v_b1, iv v_b2, iv v_f1, iv v_f2, iv v_c, iv v_fc, rv b1, .unset, .unset, .unset, .unset, .unset, .unset, .unset, .unset, .unset] [.null, (.ref b2), (.ref b2)] _
        refine X35.checkcastNull hx (g := (mkF m 121 #[iv xf, iv xg, .val (.long xt), .second, .val (.long xq), .second, .val (.long xc), .second, iv bg, iv od, iv v_x, iv v_y, iv v_b1, iv v_b2, iv v_f1, iv v_f2, iv v_c, iv v_fc, rv b1, .unset, .unset, .unset, .unset, .unset, .unset, .unset, .unset, .unset] [.null, (.ref b2), (.ref b2)])) rfl rfl (hb hby at_121) _ ?_
        show own_At p e below T35 m 124 #[iv xf, iv xg, .val (.long xt), .second, .val (.long xq), .second, .val (.long xc), .second, iv bg, iv od, iv v_x, iv v_y, iv v_b1, iv v_b2, iv v_f1, iv v_f2, iv v_c, iv v_fc, rv b1, .unset, .unset, .unset, .unset, .unset, .unset, .unset, .unset, .unset] [.null, (.ref b2), (.ref b2)] _
        refine XS.iloadN X35.here hx rfl (hb hby at_124) rfl ?_
        show own_At p e below T35 m 125 #[iv xf, iv xg, .val (.long xt), .second, .val (.long xq), .second, .val (.long xc), .second, iv bg, iv od, iv v_x, iv v_y, iv v_b1, iv v_b2, iv v_f1, iv v_f2, iv v_c, iv v_fc, rv b1, .unset, .unset, .unset, .unset, .unset, .unset, .unset, .unset, .unset] [(.int xf), .null, (.ref b2), (.ref b2)] _
        refine XS.aload X35.here hx rfl (hb hby at_125) rfl rfl ?_
        show own_At p e below T35 m 127 #[iv xf, iv xg, .val (.long xt), .second, .val (.long xq), .second, .val (.long xc), .second, iv bg, iv od, iv v_x, iv v_y, iv v_b1, iv v_b2, iv v_f1, iv v_f2, iv v_c, iv v_fc, rv b1, .unset, .unset, .unset, .unset, .unset, .unset, .unset, .unset, .unset] [(.ref b1), (.int xf), .null, (.ref b2), (.ref b2)] _
        refine XS.iloadN X35.here hx rfl (hb hby at_127) rfl ?_
        show own_At p e below T35 m 128 #[iv xf, iv xg, .val (.long xt), .second, .val (.long xq), .second, .val (.long xc), .second, iv bg, iv od, iv v_x, iv v_y, iv v_b1, iv v_b2, iv v_f1, iv v_f2, iv v_c, iv v_fc, rv b1, .unset, .unset, .unset, .unset, .unset, .unset, .unset, .unset, .unset] [(.int xf), (.ref b1), (.int xf), .null, (.ref b2), (.ref b2)] _
        refine XS.iconst X35.here hx rfl (hb hby at_128) ?_
        show own_At p e below T35 m 129 #[iv xf, iv xg, .val (.long xt), .second, .val (.long xq), .second, .val (.long xc), .second, iv bg, iv od, iv v_x, iv v_y, iv v_b1, iv v_b2, iv v_f1, iv v_f2, iv v_c, iv v_fc, rv b1, .unset, .unset, .unset, .unset, .unset, .unset, .unset, .unset, .unset] [(.int (3 : Int32)), (.int xf), (.ref b1), (.int xf), .null, (.ref b2), (.ref b2)] _
        refine XS.iadd X35.here hx rfl (hb hby at_129) rfl ?_
        show own_At p e below T35 m 130 #[iv xf, iv xg, .val (.long xt), .second, .val (.long xq), .second, .val (.long xc), .second, iv bg, iv od, iv v_x, iv v_y, iv v_b1, iv v_b2, iv v_f1, iv v_f2, iv v_c, iv v_fc, rv b1, .unset, .unset, .unset, .unset, .unset, .unset, .unset, .unset, .unset] [(.int (xf + (3 : Int32))), (.ref b1), (.int xf), .null, (.ref b2), (.ref b2)] _
        exact kt)
      obtain ⟨_, _, ⟨T46, L46, k46, n46⟩, -, X46, ⟨Lc46, hQ46, l46, y46, z46⟩, ls46⟩ := X35.specialBack hx (y := (⟨"com/example/ranked_text_search/rankedtextsearch/MemoryTermVectors", "<init>", "([Ljava/lang/String;I[II)V"⟩ : MethodName)) rfl hown (mvT hZ (hw _ (List.mem_of_getElem? (i := 11) rfl))) (mvT hZ (hw _ (List.mem_of_getElem? (i := 12) rfl))) (mvT hZ (hw _ (List.mem_of_getElem? (i := 13) rfl))) (by decide) (backOf (W := 1) (rm_init4 l Z a0 hw [] b2 xf b1 ((xf + (3 : Int32))) ((fun q => if q = 2 then (.int (1 : Int32)) else (fun q => if q = 1 then (.int (2 : Int32)) else (fun q => if q = 0 then (.int (1 : Int32)) else (fun _ => (.int (0 : Int32))) q) q) q)) h35 n0 z37 f38 f39 f40 f41 f42 f43 A35 g_b2 f36 rfl rfl rfl d3 ((Ne.symm ne_b1_b2))) hZ (hw _ (List.mem_of_getElem? (i := 13) rfl)) (hw _ (List.mem_of_getElem? (i := 10) rfl)) (by decide) (by decide)) (g := (mkF m 130 #[iv xf, iv xg, .val (.long xt), .second, .val (.long xq), .second, .val (.long xc), .second, iv bg, iv od, iv v_x, iv v_y, iv v_b1, iv v_b2, iv v_f1, iv v_f2, iv v_c, iv v_fc, rv b1, .unset, .unset, .unset, .unset, .unset, .unset, .unset, .unset, .unset] [(.int (xf + (3 : Int32))), (.ref b1), (.int xf), .null, (.ref b2), (.ref b2)])) rfl (by rw [hml]; rfl) (Steps.refl _) (a := b2) (argsL := [.null, (.int xf), (.ref b1), (.int (xf + (3 : Int32)))]) (rest := [(.ref b2)]) (lenOf own_pd6 rfl) rfl (by show 2 * 0 + _ ≤ _; exact Nat.le_of_eq rfl) (hb hby at_130) (fun _ _ => ⟨rfl, e35, (by decide : 2 + 6 ≤ _), (by decide : 9 + 30 ≤ _)⟩)
      dsimp only [Pt.U, Pt.locs, Pt.cells, Pt.slots] at X46 l46 y46 z46 ls46 hQ46
      subst l46 y46 z46
      obtain ⟨rfl, Nq46, Zq46, Vq46⟩ := hQ46
      have N46 := Fr.app N30 Nq46
      have st47 : own_Go p e below (T46.setTop (mkF m 133 #[iv xf, iv xg, .val (.long xt), .second, .val (.long xq), .second, .val (.long xc), .second, iv bg, iv od, iv v_x, iv v_y, iv v_b1, iv v_b2, iv v_f1, iv v_f2, iv v_c, iv v_fc, rv b1, .unset, .unset, .unset, .unset, .unset, .unset, .unset, .unset, .unset] [(.ref b2)])) B0 := fun t kt => st45 t (ls46.trans kt)
      have Eq46 := Vq46.1
      have st48 : own_Go p e below (T46.setTop (mkF m 147 #[iv xf, iv xg, .val (.long xt), .second, .val (.long xq), .second, .val (.long xc), .second, iv bg, iv od, iv v_x, iv v_y, iv v_b1, iv v_b2, iv v_f1, iv v_f2, iv v_c, iv v_fc, rv b1, rv b2, iv (xf + (1 : Int32)), iv (xf + (2 : Int32)), .unset, .unset, .unset, .unset, .unset, .unset] [(.int od)])) B0 := fun t kt => st47 t (by
        show own_At p e below T46 m 133 #[iv xf, iv xg, .val (.long xt), .second, .val (.long xq), .second, .val (.long xc), .second, iv bg, iv od, iv v_x, iv v_y, iv v_b1, iv v_b2, iv v_f1, iv v_f2, iv v_c, iv v_fc, rv b1, .unset, .unset, .unset, .unset, .unset, .unset, .unset, .unset, .unset] [(.ref b2)] _
        refine XS.astore X46.here hx rfl (hb hby at_133) rfl rfl (l' := #[iv xf, iv xg, .val (.long xt), .second, .val (.long xq), .second, .val (.long xc), .second, iv bg, iv od, iv v_x, iv v_y, iv v_b1, iv v_b2, iv v_f1, iv v_f2, iv v_c, iv v_fc, rv b1, rv b2, .unset, .unset, .unset, .unset, .unset, .unset, .unset, .unset]) rfl ?_
        show own_At p e below T46 m 135 #[iv xf, iv xg, .val (.long xt), .second, .val (.long xq), .second, .val (.long xc), .second, iv bg, iv od, iv v_x, iv v_y, iv v_b1, iv v_b2, iv v_f1, iv v_f2, iv v_c, iv v_fc, rv b1, rv b2, .unset, .unset, .unset, .unset, .unset, .unset, .unset, .unset] [] _
        refine XS.iloadN X46.here hx rfl (hb hby at_135) rfl ?_
        show own_At p e below T46 m 136 #[iv xf, iv xg, .val (.long xt), .second, .val (.long xq), .second, .val (.long xc), .second, iv bg, iv od, iv v_x, iv v_y, iv v_b1, iv v_b2, iv v_f1, iv v_f2, iv v_c, iv v_fc, rv b1, rv b2, .unset, .unset, .unset, .unset, .unset, .unset, .unset, .unset] [(.int xf)] _
        refine XS.iconst X46.here hx rfl (hb hby at_136) ?_
        show own_At p e below T46 m 137 #[iv xf, iv xg, .val (.long xt), .second, .val (.long xq), .second, .val (.long xc), .second, iv bg, iv od, iv v_x, iv v_y, iv v_b1, iv v_b2, iv v_f1, iv v_f2, iv v_c, iv v_fc, rv b1, rv b2, .unset, .unset, .unset, .unset, .unset, .unset, .unset, .unset] [(.int (1 : Int32)), (.int xf)] _
        refine XS.iadd X46.here hx rfl (hb hby at_137) rfl ?_
        show own_At p e below T46 m 138 #[iv xf, iv xg, .val (.long xt), .second, .val (.long xq), .second, .val (.long xc), .second, iv bg, iv od, iv v_x, iv v_y, iv v_b1, iv v_b2, iv v_f1, iv v_f2, iv v_c, iv v_fc, rv b1, rv b2, .unset, .unset, .unset, .unset, .unset, .unset, .unset, .unset] [(.int (xf + (1 : Int32)))] _
        refine XS.istore X46.here hx rfl (hb hby at_138) rfl (l' := #[iv xf, iv xg, .val (.long xt), .second, .val (.long xq), .second, .val (.long xc), .second, iv bg, iv od, iv v_x, iv v_y, iv v_b1, iv v_b2, iv v_f1, iv v_f2, iv v_c, iv v_fc, rv b1, rv b2, iv (xf + (1 : Int32)), .unset, .unset, .unset, .unset, .unset, .unset, .unset]) rfl ?_
        show own_At p e below T46 m 140 #[iv xf, iv xg, .val (.long xt), .second, .val (.long xq), .second, .val (.long xc), .second, iv bg, iv od, iv v_x, iv v_y, iv v_b1, iv v_b2, iv v_f1, iv v_f2, iv v_c, iv v_fc, rv b1, rv b2, iv (xf + (1 : Int32)), .unset, .unset, .unset, .unset, .unset, .unset, .unset] [] _
        refine XS.iloadN X46.here hx rfl (hb hby at_140) rfl ?_
        show own_At p e below T46 m 141 #[iv xf, iv xg, .val (.long xt), .second, .val (.long xq), .second, .val (.long xc), .second, iv bg, iv od, iv v_x, iv v_y, iv v_b1, iv v_b2, iv v_f1, iv v_f2, iv v_c, iv v_fc, rv b1, rv b2, iv (xf + (1 : Int32)), .unset, .unset, .unset, .unset, .unset, .unset, .unset] [(.int xf)] _
        refine XS.iconst X46.here hx rfl (hb hby at_141) ?_
        show own_At p e below T46 m 142 #[iv xf, iv xg, .val (.long xt), .second, .val (.long xq), .second, .val (.long xc), .second, iv bg, iv od, iv v_x, iv v_y, iv v_b1, iv v_b2, iv v_f1, iv v_f2, iv v_c, iv v_fc, rv b1, rv b2, iv (xf + (1 : Int32)), .unset, .unset, .unset, .unset, .unset, .unset, .unset] [(.int (2 : Int32)), (.int xf)] _
        refine XS.iadd X46.here hx rfl (hb hby at_142) rfl ?_
        show own_At p e below T46 m 143 #[iv xf, iv xg, .val (.long xt), .second, .val (.long xq), .second, .val (.long xc), .second, iv bg, iv od, iv v_x, iv v_y, iv v_b1, iv v_b2, iv v_f1, iv v_f2, iv v_c, iv v_fc, rv b1, rv b2, iv (xf + (1 : Int32)), .unset, .unset, .unset, .unset, .unset, .unset, .unset] [(.int (xf + (2 : Int32)))] _
        refine XS.istore X46.here hx rfl (hb hby at_143) rfl (l' := #[iv xf, iv xg, .val (.long xt), .second, .val (.long xq), .second, .val (.long xc), .second, iv bg, iv od, iv v_x, iv v_y, iv v_b1, iv v_b2, iv v_f1, iv v_f2, iv v_c, iv v_fc, rv b1, rv b2, iv (xf + (1 : Int32)), iv (xf + (2 : Int32)), .unset, .unset, .unset, .unset, .unset, .unset]) rfl ?_
        show own_At p e below T46 m 145 #[iv xf, iv xg, .val (.long xt), .second, .val (.long xq), .second, .val (.long xc), .second, iv bg, iv od, iv v_x, iv v_y, iv v_b1, iv v_b2, iv v_f1, iv v_f2, iv v_c, iv v_fc, rv b1, rv b2, iv (xf + (1 : Int32)), iv (xf + (2 : Int32)), .unset, .unset, .unset, .unset, .unset, .unset] [] _
        refine XS.iload X46.here hx rfl (hb hby at_145) rfl ?_
        show own_At p e below T46 m 147 #[iv xf, iv xg, .val (.long xt), .second, .val (.long xq), .second, .val (.long xc), .second, iv bg, iv od, iv v_x, iv v_y, iv v_b1, iv v_b2, iv v_f1, iv v_f2, iv v_c, iv v_fc, rv b1, rv b2, iv (xf + (1 : Int32)), iv (xf + (2 : Int32)), .unset, .unset, .unset, .unset, .unset, .unset] [(.int od)] _
        exact kt)
      obtain ⟨T49, L49, X49, N49, Z49, Vj, st49⟩ : ∃ (T49 : State) (L' : List Loc), Stand p l e room_1 s m #[(.int xf), (.int xg), (.long xt), (.long xq), (.long xc)] below meth c T49 L' 8 39 ∧ Fr n0 L' ∧ n0 ≤ T49.heap.size ∧ (own_VS Z T49.heap n0 b2 xf (fun q => if q = 1 then 3 else if q = 2 then 4 else own_st 1 3 4 q) (fun q => if q = 1 then v_b1 else if q = 2 then v_b2 else if q = 3 then v_c else 0) (fun q => if q = 1 then v_f1 else if q = 2 then v_f2 else if q = 3 then v_fc else 0)) ∧ own_Go p e below (T49.setTop (mkF m 261 #[iv xf, iv xg, .val (.long xt), .second, .val (.long xq), .second, .val (.long xc), .second, iv bg, iv od, iv v_x, iv v_y, iv v_b1, iv v_b2, iv v_f1, iv v_f2, iv v_c, iv v_fc, rv b1, rv b2, iv (xf + (1 : Int32)), iv (xf + (2 : Int32)), .unset, .unset, .unset, .unset, .unset, .unset] [])) B0 := by
        by_cases q3 : od = (0 : Int32)
        · have st50 : own_Go p e below (T46.setTop (mkF m 158 #[iv xf, iv xg, .val (.long xt), .second, .val (.long xq), .second, .val (.long xc), .second, iv bg, iv od, iv v_x, iv v_y, iv v_b1, iv v_b2, iv v_f1, iv v_f2, iv v_c, iv v_fc, rv b1, rv b2, iv (xf + (1 : Int32)), iv (xf + (2 : Int32)), .unset, .unset, .unset, .unset, .unset, .unset] [(.int v_f1), (.int (xf + (1 : Int32))), (.int v_b1), (.ref b2)])) B0 := fun t kt => st48 t (by
            show own_At p e below T46 m 147 #[iv xf, iv xg, .val (.long xt), .second, .val (.long xq), .second, .val (.long xc), .second, iv bg, iv od, iv v_x, iv v_y, iv v_b1, iv v_b2, iv v_f1, iv v_f2, iv v_c, iv v_fc, rv b1, rv b2, iv (xf + (1 : Int32)), iv (xf + (2 : Int32)), .unset, .unset, .unset, .unset, .unset, .unset] [(.int od)] _
            refine XS.ifNo X46.here hx rfl (hb hby at_147) rfl ((if0 _ _).trans (teq q3).2) ?_
            show own_At p e below T46 m 150 #[iv xf, iv xg, .val (.long xt), .second, .val (.long xq), .second, .val (.long xc), .second, iv bg, iv od, iv v_x, iv v_y, iv v_b1, iv v_b2, iv v_f1, iv v_f2, iv v_c, iv v_fc, rv b1, rv b2, iv (xf + (1 : Int32)), iv (xf + (2 : Int32)), .unset, .unset, .unset, .unset, .unset, .unset] [] _
            refine XS.aload X46.here hx rfl (hb hby at_150) rfl rfl ?_
            show own_At p e below T46 m 152 #[iv xf, iv xg, .val (.long xt), .second, .val (.long xq), .second, .val (.long xc), .second, iv bg, iv od, iv v_x, iv v_y, iv v_b1, iv v_b2, iv v_f1, iv v_f2, iv v_c, iv v_fc, rv b1, rv b2, iv (xf + (1 : Int32)), iv (xf + (2 : Int32)), .unset, .unset, .unset, .unset, .unset, .unset] [(.ref b2)] _
            refine XS.iload X46.here hx rfl (hb hby at_152) rfl ?_
            show own_At p e below T46 m 154 #[iv xf, iv xg, .val (.long xt), .second, .val (.long xq), .second, .val (.long xc), .second, iv bg, iv od, iv v_x, iv v_y, iv v_b1, iv v_b2, iv v_f1, iv v_f2, iv v_c, iv v_fc, rv b1, rv b2, iv (xf + (1 : Int32)), iv (xf + (2 : Int32)), .unset, .unset, .unset, .unset, .unset, .unset] [(.int v_b1), (.ref b2)] _
            refine XS.iload X46.here hx rfl (hb hby at_154) rfl ?_
            show own_At p e below T46 m 156 #[iv xf, iv xg, .val (.long xt), .second, .val (.long xq), .second, .val (.long xc), .second, iv bg, iv od, iv v_x, iv v_y, iv v_b1, iv v_b2, iv v_f1, iv v_f2, iv v_c, iv v_fc, rv b1, rv b2, iv (xf + (1 : Int32)), iv (xf + (2 : Int32)), .unset, .unset, .unset, .unset, .unset, .unset] [(.int (xf + (1 : Int32))), (.int v_b1), (.ref b2)] _
            refine XS.iload X46.here hx rfl (hb hby at_156) rfl ?_
            show own_At p e below T46 m 158 #[iv xf, iv xg, .val (.long xt), .second, .val (.long xq), .second, .val (.long xc), .second, iv bg, iv od, iv v_x, iv v_y, iv v_b1, iv v_b2, iv v_f1, iv v_f2, iv v_c, iv v_fc, rv b1, rv b2, iv (xf + (1 : Int32)), iv (xf + (2 : Int32)), .unset, .unset, .unset, .unset, .unset, .unset] [(.int v_f1), (.int (xf + (1 : Int32))), (.int v_b1), (.ref b2)] _
            exact kt)
          obtain ⟨cq51, kq51, q51a, q51b, q51c⟩ := isOf hZ rfl Eq46
          obtain ⟨_, _, ⟨T51, L51, k51, n51⟩, -, X51, ⟨Lc51, hQ51, l51, y51, z51⟩, ls51⟩ := X46.virtualBack hx (y := (⟨"com/example/ranked_text_search/rankedtextsearch/MemoryTermVectors", "add", "(III)V"⟩ : MethodName)) (z := (⟨"com/example/ranked_text_search/rankedtextsearch/MemoryTermVectors", "add", "(III)V"⟩ : MethodName)) hown (mvT hZ (hw _ (List.mem_of_getElem? (i := 46) rfl))) (mvT hZ (hw _ (List.mem_of_getElem? (i := 47) rfl))) (notFace_of_selects (args := #[]) (mvT hZ (hw _ (List.mem_of_getElem? (i := 49) rfl)))) (mvT hZ (hw _ (List.mem_of_getElem? (i := 49) rfl))) (mvT hZ (hw _ (List.mem_of_getElem? (i := 48) rfl))) (by decide) (backOf (W := 0) (rm_add_1_1 l Z a0 hw [] b2 v_b1 ((xf + (1 : Int32))) v_f1 xf ((own_st 1 3 4)) ((fun _ => (0 : Int32))) ((fun _ => (0 : Int32))) T46.heap n0 Zq46 Vq46 d1 rfl) hZ (hw _ (List.mem_of_getElem? (i := 50) rfl)) (hw _ (List.mem_of_getElem? (i := 10) rfl)) (by decide) (by decide)) q51a q51c (g := (mkF m 158 #[iv xf, iv xg, .val (.long xt), .second, .val (.long xq), .second, .val (.long xc), .second, iv bg, iv od, iv v_x, iv v_y, iv v_b1, iv v_b2, iv v_f1, iv v_f2, iv v_c, iv v_fc, rv b1, rv b2, iv (xf + (1 : Int32)), iv (xf + (2 : Int32)), .unset, .unset, .unset, .unset, .unset, .unset] [(.int v_f1), (.int (xf + (1 : Int32))), (.int v_b1), (.ref b2)])) rfl (by rw [hml]; rfl) (Steps.refl _) (argsL := [(.int v_b1), (.int (xf + (1 : Int32))), (.int v_f1)]) (rest := []) (lenOf own_pd7 rfl) rfl (by show 2 * 0 + _ ≤ _; exact Nat.le_of_eq rfl) (hb hby at_158) (fun _ _ => ⟨rfl, rfl, (by decide : 8 + 0 ≤ _), (by decide : 39 + 0 ≤ _)⟩)
          dsimp only [Pt.U, Pt.locs, Pt.cells, Pt.slots] at X51 l51 y51 z51 ls51 hQ51
          subst l51 y51 z51
          obtain ⟨rfl, Nq51, Zq51, Vq51⟩ := hQ51
          have N51 := Fr.app N46 Nq51
          have st52 : own_Go p e below (T51.setTop (mkF m 161 #[iv xf, iv xg, .val (.long xt), .second, .val (.long xq), .second, .val (.long xc), .second, iv bg, iv od, iv v_x, iv v_y, iv v_b1, iv v_b2, iv v_f1, iv v_f2, iv v_c, iv v_fc, rv b1, rv b2, iv (xf + (1 : Int32)), iv (xf + (2 : Int32)), .unset, .unset, .unset, .unset, .unset, .unset] [])) B0 := fun t kt => st50 t (ls51.trans kt)
          have Eq51 := Vq51.1
          have st53 : own_Go p e below (T51.setTop (mkF m 169 #[iv xf, iv xg, .val (.long xt), .second, .val (.long xq), .second, .val (.long xc), .second, iv bg, iv od, iv v_x, iv v_y, iv v_b1, iv v_b2, iv v_f1, iv v_f2, iv v_c, iv v_fc, rv b1, rv b2, iv (xf + (1 : Int32)), iv (xf + (2 : Int32)), .unset, .unset, .unset, .unset, .unset, .unset] [(.int v_f2), (.int (xf + (1 : Int32))), (.int v_b2), (.ref b2)])) B0 := fun t kt => st52 t (by
            show own_At p e below T51 m 161 #[iv xf, iv xg, .val (.long xt), .second, .val (.long xq), .second, .val (.long xc), .second, iv bg, iv od, iv v_x, iv v_y, iv v_b1, iv v_b2, iv v_f1, iv v_f2, iv v_c, iv v_fc, rv b1, rv b2, iv (xf + (1 : Int32)), iv (xf + (2 : Int32)), .unset, .unset, .unset, .unset, .unset, .unset] [] _
            refine XS.aload X51.here hx rfl (hb hby at_161) rfl rfl ?_
            show own_At p e below T51 m 163 #[iv xf, iv xg, .val (.long xt), .second, .val (.long xq), .second, .val (.long xc), .second, iv bg, iv od, iv v_x, iv v_y, iv v_b1, iv v_b2, iv v_f1, iv v_f2, iv v_c, iv v_fc, rv b1, rv b2, iv (xf + (1 : Int32)), iv (xf + (2 : Int32)), .unset, .unset, .unset, .unset, .unset, .unset] [(.ref b2)] _
            refine XS.iload X51.here hx rfl (hb hby at_163) rfl ?_
            show own_At p e below T51 m 165 #[iv xf, iv xg, .val (.long xt), .second, .val (.long xq), .second, .val (.long xc), .second, iv bg, iv od, iv v_x, iv v_y, iv v_b1, iv v_b2, iv v_f1, iv v_f2, iv v_c, iv v_fc, rv b1, rv b2, iv (xf + (1 : Int32)), iv (xf + (2 : Int32)), .unset, .unset, .unset, .unset, .unset, .unset] [(.int v_b2), (.ref b2)] _
            refine XS.iload X51.here hx rfl (hb hby at_165) rfl ?_
            show own_At p e below T51 m 167 #[iv xf, iv xg, .val (.long xt), .second, .val (.long xq), .second, .val (.long xc), .second, iv bg, iv od, iv v_x, iv v_y, iv v_b1, iv v_b2, iv v_f1, iv v_f2, iv v_c, iv v_fc, rv b1, rv b2, iv (xf + (1 : Int32)), iv (xf + (2 : Int32)), .unset, .unset, .unset, .unset, .unset, .unset] [(.int (xf + (1 : Int32))), (.int v_b2), (.ref b2)] _
            refine XS.iload X51.here hx rfl (hb hby at_167) rfl ?_
            show own_At p e below T51 m 169 #[iv xf, iv xg, .val (.long xt), .second, .val (.long xq), .second, .val (.long xc), .second, iv bg, iv od, iv v_x, iv v_y, iv v_b1, iv v_b2, iv v_f1, iv v_f2, iv v_c, iv v_fc, rv b1, rv b2, iv (xf + (1 : Int32)), iv (xf + (2 : Int32)), .unset, .unset, .unset, .unset, .unset, .unset] [(.int v_f2), (.int (xf + (1 : Int32))), (.int v_b2), (.ref b2)] _
            exact kt)
          obtain ⟨cq54, kq54, q54a, q54b, q54c⟩ := isOf hZ rfl Eq51
          obtain ⟨_, _, ⟨T54, L54, k54, n54⟩, -, X54, ⟨Lc54, hQ54, l54, y54, z54⟩, ls54⟩ := X51.virtualBack hx (y := (⟨"com/example/ranked_text_search/rankedtextsearch/MemoryTermVectors", "add", "(III)V"⟩ : MethodName)) (z := (⟨"com/example/ranked_text_search/rankedtextsearch/MemoryTermVectors", "add", "(III)V"⟩ : MethodName)) hown (mvT hZ (hw _ (List.mem_of_getElem? (i := 46) rfl))) (mvT hZ (hw _ (List.mem_of_getElem? (i := 47) rfl))) (notFace_of_selects (args := #[]) (mvT hZ (hw _ (List.mem_of_getElem? (i := 49) rfl)))) (mvT hZ (hw _ (List.mem_of_getElem? (i := 49) rfl))) (mvT hZ (hw _ (List.mem_of_getElem? (i := 48) rfl))) (by decide) (backOf (W := 0) (rm_add_1_2 l Z a0 hw [] b2 v_b2 ((xf + (1 : Int32))) v_f2 xf ((fun q => if q = 1 then 2 else (own_st 1 3 4) q)) ((fun q => if q = 1 then v_b1 else (fun _ => (0 : Int32)) q)) ((fun q => if q = 1 then v_f1 else (fun _ => (0 : Int32)) q)) T51.heap n0 Zq51 Vq51 d1 rfl) hZ (hw _ (List.mem_of_getElem? (i := 50) rfl)) (hw _ (List.mem_of_getElem? (i := 10) rfl)) (by decide) (by decide)) q54a q54c (g := (mkF m 169 #[iv xf, iv xg, .val (.long xt), .second, .val (.long xq), .second, .val (.long xc), .second, iv bg, iv od, iv v_x, iv v_y, iv v_b1, iv v_b2, iv v_f1, iv v_f2, iv v_c, iv v_fc, rv b1, rv b2, iv (xf + (1 : Int32)), iv (xf + (2 : Int32)), .unset, .unset, .unset, .unset, .unset, .unset] [(.int v_f2), (.int (xf + (1 : Int32))), (.int v_b2), (.ref b2)])) rfl (by rw [hml]; rfl) (Steps.refl _) (argsL := [(.int v_b2), (.int (xf + (1 : Int32))), (.int v_f2)]) (rest := []) (lenOf own_pd7 rfl) rfl (by show 2 * 0 + _ ≤ _; exact Nat.le_of_eq rfl) (hb hby at_169) (fun _ _ => ⟨rfl, rfl, (by decide : 8 + 0 ≤ _), (by decide : 39 + 0 ≤ _)⟩)
          dsimp only [Pt.U, Pt.locs, Pt.cells, Pt.slots] at X54 l54 y54 z54 ls54 hQ54
          subst l54 y54 z54
          obtain ⟨rfl, Nq54, Zq54, Vq54⟩ := hQ54
          have N54 := Fr.app N51 Nq54
          have st55 : own_Go p e below (T54.setTop (mkF m 172 #[iv xf, iv xg, .val (.long xt), .second, .val (.long xq), .second, .val (.long xc), .second, iv bg, iv od, iv v_x, iv v_y, iv v_b1, iv v_b2, iv v_f1, iv v_f2, iv v_c, iv v_fc, rv b1, rv b2, iv (xf + (1 : Int32)), iv (xf + (2 : Int32)), .unset, .unset, .unset, .unset, .unset, .unset] [])) B0 := fun t kt => st53 t (ls54.trans kt)
          have Eq54 := Vq54.1
          have st56 : own_Go p e below (T54.setTop (mkF m 180 #[iv xf, iv xg, .val (.long xt), .second, .val (.long xq), .second, .val (.long xc), .second, iv bg, iv od, iv v_x, iv v_y, iv v_b1, iv v_b2, iv v_f1, iv v_f2, iv v_c, iv v_fc, rv b1, rv b2, iv (xf + (1 : Int32)), iv (xf + (2 : Int32)), .unset, .unset, .unset, .unset, .unset, .unset] [(.int v_fc), (.int (xf + (2 : Int32))), (.int v_c), (.ref b2)])) B0 := fun t kt => st55 t (by
            show own_At p e below T54 m 172 #[iv xf, iv xg, .val (.long xt), .second, .val (.long xq), .second, .val (.long xc), .second, iv bg, iv od, iv v_x, iv v_y, iv v_b1, iv v_b2, iv v_f1, iv v_f2, iv v_c, iv v_fc, rv b1, rv b2, iv (xf + (1 : Int32)), iv (xf + (2 : Int32)), .unset, .unset, .unset, .unset, .unset, .unset] [] _
            refine XS.aload X54.here hx rfl (hb hby at_172) rfl rfl ?_
            show own_At p e below T54 m 174 #[iv xf, iv xg, .val (.long xt), .second, .val (.long xq), .second, .val (.long xc), .second, iv bg, iv od, iv v_x, iv v_y, iv v_b1, iv v_b2, iv v_f1, iv v_f2, iv v_c, iv v_fc, rv b1, rv b2, iv (xf + (1 : Int32)), iv (xf + (2 : Int32)), .unset, .unset, .unset, .unset, .unset, .unset] [(.ref b2)] _
            refine XS.iload X54.here hx rfl (hb hby at_174) rfl ?_
            show own_At p e below T54 m 176 #[iv xf, iv xg, .val (.long xt), .second, .val (.long xq), .second, .val (.long xc), .second, iv bg, iv od, iv v_x, iv v_y, iv v_b1, iv v_b2, iv v_f1, iv v_f2, iv v_c, iv v_fc, rv b1, rv b2, iv (xf + (1 : Int32)), iv (xf + (2 : Int32)), .unset, .unset, .unset, .unset, .unset, .unset] [(.int v_c), (.ref b2)] _
            refine XS.iload X54.here hx rfl (hb hby at_176) rfl ?_
            show own_At p e below T54 m 178 #[iv xf, iv xg, .val (.long xt), .second, .val (.long xq), .second, .val (.long xc), .second, iv bg, iv od, iv v_x, iv v_y, iv v_b1, iv v_b2, iv v_f1, iv v_f2, iv v_c, iv v_fc, rv b1, rv b2, iv (xf + (1 : Int32)), iv (xf + (2 : Int32)), .unset, .unset, .unset, .unset, .unset, .unset] [(.int (xf + (2 : Int32))), (.int v_c), (.ref b2)] _
            refine XS.iload X54.here hx rfl (hb hby at_178) rfl ?_
            show own_At p e below T54 m 180 #[iv xf, iv xg, .val (.long xt), .second, .val (.long xq), .second, .val (.long xc), .second, iv bg, iv od, iv v_x, iv v_y, iv v_b1, iv v_b2, iv v_f1, iv v_f2, iv v_c, iv v_fc, rv b1, rv b2, iv (xf + (1 : Int32)), iv (xf + (2 : Int32)), .unset, .unset, .unset, .unset, .unset, .unset] [(.int v_fc), (.int (xf + (2 : Int32))), (.int v_c), (.ref b2)] _
            exact kt)
          obtain ⟨cq57, kq57, q57a, q57b, q57c⟩ := isOf hZ rfl Eq54
          obtain ⟨_, _, ⟨T57, L57, k57, n57⟩, -, X57, ⟨Lc57, hQ57, l57, y57, z57⟩, ls57⟩ := X54.virtualBack hx (y := (⟨"com/example/ranked_text_search/rankedtextsearch/MemoryTermVectors", "add", "(III)V"⟩ : MethodName)) (z := (⟨"com/example/ranked_text_search/rankedtextsearch/MemoryTermVectors", "add", "(III)V"⟩ : MethodName)) hown (mvT hZ (hw _ (List.mem_of_getElem? (i := 46) rfl))) (mvT hZ (hw _ (List.mem_of_getElem? (i := 47) rfl))) (notFace_of_selects (args := #[]) (mvT hZ (hw _ (List.mem_of_getElem? (i := 49) rfl)))) (mvT hZ (hw _ (List.mem_of_getElem? (i := 49) rfl))) (mvT hZ (hw _ (List.mem_of_getElem? (i := 48) rfl))) (by decide) (backOf (W := 0) (rm_add_2_3 l Z a0 hw [] b2 v_c ((xf + (2 : Int32))) v_fc xf ((fun q => if q = 1 then 3 else (fun q => if q = 1 then 2 else (own_st 1 3 4) q) q)) ((fun q => if q = 2 then v_b2 else (fun q => if q = 1 then v_b1 else (fun _ => (0 : Int32)) q) q)) ((fun q => if q = 2 then v_f2 else (fun q => if q = 1 then v_f1 else (fun _ => (0 : Int32)) q) q)) T54.heap n0 Zq54 Vq54 d2 rfl) hZ (hw _ (List.mem_of_getElem? (i := 50) rfl)) (hw _ (List.mem_of_getElem? (i := 10) rfl)) (by decide) (by decide)) q57a q57c (g := (mkF m 180 #[iv xf, iv xg, .val (.long xt), .second, .val (.long xq), .second, .val (.long xc), .second, iv bg, iv od, iv v_x, iv v_y, iv v_b1, iv v_b2, iv v_f1, iv v_f2, iv v_c, iv v_fc, rv b1, rv b2, iv (xf + (1 : Int32)), iv (xf + (2 : Int32)), .unset, .unset, .unset, .unset, .unset, .unset] [(.int v_fc), (.int (xf + (2 : Int32))), (.int v_c), (.ref b2)])) rfl (by rw [hml]; rfl) (Steps.refl _) (argsL := [(.int v_c), (.int (xf + (2 : Int32))), (.int v_fc)]) (rest := []) (lenOf own_pd7 rfl) rfl (by show 2 * 0 + _ ≤ _; exact Nat.le_of_eq rfl) (hb hby at_180) (fun _ _ => ⟨rfl, rfl, (by decide : 8 + 0 ≤ _), (by decide : 39 + 0 ≤ _)⟩)
          dsimp only [Pt.U, Pt.locs, Pt.cells, Pt.slots] at X57 l57 y57 z57 ls57 hQ57
          subst l57 y57 z57
          obtain ⟨rfl, Nq57, Zq57, Vq57⟩ := hQ57
          have N57 := Fr.app N54 Nq57
          have st58 : own_Go p e below (T57.setTop (mkF m 183 #[iv xf, iv xg, .val (.long xt), .second, .val (.long xq), .second, .val (.long xc), .second, iv bg, iv od, iv v_x, iv v_y, iv v_b1, iv v_b2, iv v_f1, iv v_f2, iv v_c, iv v_fc, rv b1, rv b2, iv (xf + (1 : Int32)), iv (xf + (2 : Int32)), .unset, .unset, .unset, .unset, .unset, .unset] [])) B0 := fun t kt => st56 t (ls57.trans kt)
          have Eq57 := Vq57.1
          have st59 : own_Go p e below (T57.setTop (mkF m 261 #[iv xf, iv xg, .val (.long xt), .second, .val (.long xq), .second, .val (.long xc), .second, iv bg, iv od, iv v_x, iv v_y, iv v_b1, iv v_b2, iv v_f1, iv v_f2, iv v_c, iv v_fc, rv b1, rv b2, iv (xf + (1 : Int32)), iv (xf + (2 : Int32)), .unset, .unset, .unset, .unset, .unset, .unset] [])) B0 := fun t kt => st58 t (by
            show own_At p e below T57 m 183 #[iv xf, iv xg, .val (.long xt), .second, .val (.long xq), .second, .val (.long xc), .second, iv bg, iv od, iv v_x, iv v_y, iv v_b1, iv v_b2, iv v_f1, iv v_f2, iv v_c, iv v_fc, rv b1, rv b2, iv (xf + (1 : Int32)), iv (xf + (2 : Int32)), .unset, .unset, .unset, .unset, .unset, .unset] [] _
            refine XS.goto X57.here hx rfl (pc0 := 183) (pc' := 261) rfl (hb hby at_183) (by decide) (by decide) ?_
            show own_At p e below T57 m 261 #[iv xf, iv xg, .val (.long xt), .second, .val (.long xq), .second, .val (.long xc), .second, iv bg, iv od, iv v_x, iv v_y, iv v_b1, iv v_b2, iv v_f1, iv v_f2, iv v_c, iv v_fc, rv b1, rv b2, iv (xf + (1 : Int32)), iv (xf + (2 : Int32)), .unset, .unset, .unset, .unset, .unset, .unset] [] _
            exact kt)
          exact ⟨_, _, X57.more (by decide) (by decide), N57, Zq57, Vq57.to (fun q => by
              (try dsimp only [own_st])
              (repeat' split) <;> first | rfl | omega) (fun q => by
              (try dsimp only [own_st])
              (repeat' split) <;> first | rfl | omega) (fun q => by
              (try dsimp only [own_st])
              (repeat' split) <;> first | rfl | omega), st59⟩
        · have st60 : own_Go p e below (T46.setTop (mkF m 189 #[iv xf, iv xg, .val (.long xt), .second, .val (.long xq), .second, .val (.long xc), .second, iv bg, iv od, iv v_x, iv v_y, iv v_b1, iv v_b2, iv v_f1, iv v_f2, iv v_c, iv v_fc, rv b1, rv b2, iv (xf + (1 : Int32)), iv (xf + (2 : Int32)), .unset, .unset, .unset, .unset, .unset, .unset] [(.int (1 : Int32)), (.int od)])) B0 := fun t kt => st48 t (by
            show own_At p e below T46 m 147 #[iv xf, iv xg, .val (.long xt), .second, .val (.long xq), .second, .val (.long xc), .second, iv bg, iv od, iv v_x, iv v_y, iv v_b1, iv v_b2, iv v_f1, iv v_f2, iv v_c, iv v_fc, rv b1, rv b2, iv (xf + (1 : Int32)), iv (xf + (2 : Int32)), .unset, .unset, .unset, .unset, .unset, .unset] [(.int od)] _
            refine XS.ifYes X46.here hx rfl (pc0 := 147) (pc' := 186) rfl (hb hby at_147) rfl ((if0 _ _).trans (feq q3).2) (by decide) (by decide) ?_
            show own_At p e below T46 m 186 #[iv xf, iv xg, .val (.long xt), .second, .val (.long xq), .second, .val (.long xc), .second, iv bg, iv od, iv v_x, iv v_y, iv v_b1, iv v_b2, iv v_f1, iv v_f2, iv v_c, iv v_fc, rv b1, rv b2, iv (xf + (1 : Int32)), iv (xf + (2 : Int32)), .unset, .unset, .unset, .unset, .unset, .unset] [] _
            refine XS.iload X46.here hx rfl (hb hby at_186) rfl ?_
            show own_At p e below T46 m 188 #[iv xf, iv xg, .val (.long xt), .second, .val (.long xq), .second, .val (.long xc), .second, iv bg, iv od, iv v_x, iv v_y, iv v_b1, iv v_b2, iv v_f1, iv v_f2, iv v_c, iv v_fc, rv b1, rv b2, iv (xf + (1 : Int32)), iv (xf + (2 : Int32)), .unset, .unset, .unset, .unset, .unset, .unset] [(.int od)] _
            refine XS.iconst X46.here hx rfl (hb hby at_188) ?_
            show own_At p e below T46 m 189 #[iv xf, iv xg, .val (.long xt), .second, .val (.long xq), .second, .val (.long xc), .second, iv bg, iv od, iv v_x, iv v_y, iv v_b1, iv v_b2, iv v_f1, iv v_f2, iv v_c, iv v_fc, rv b1, rv b2, iv (xf + (1 : Int32)), iv (xf + (2 : Int32)), .unset, .unset, .unset, .unset, .unset, .unset] [(.int (1 : Int32)), (.int od)] _
            exact kt)
          by_cases q4 : od = (1 : Int32)
          · have st61 : own_Go p e below (T46.setTop (mkF m 200 #[iv xf, iv xg, .val (.long xt), .second, .val (.long xq), .second, .val (.long xc), .second, iv bg, iv od, iv v_x, iv v_y, iv v_b1, iv v_b2, iv v_f1, iv v_f2, iv v_c, iv v_fc, rv b1, rv b2, iv (xf + (1 : Int32)), iv (xf + (2 : Int32)), .unset, .unset, .unset, .unset, .unset, .unset] [(.int v_f1), (.int (xf + (1 : Int32))), (.int v_b1), (.ref b2)])) B0 := fun t kt => st60 t (by
              show own_At p e below T46 m 189 #[iv xf, iv xg, .val (.long xt), .second, .val (.long xq), .second, .val (.long xc), .second, iv bg, iv od, iv v_x, iv v_y, iv v_b1, iv v_b2, iv v_f1, iv v_f2, iv v_c, iv v_fc, rv b1, rv b2, iv (xf + (1 : Int32)), iv (xf + (2 : Int32)), .unset, .unset, .unset, .unset, .unset, .unset] [(.int (1 : Int32)), (.int od)] _
              refine XS.icmpNo X46.here hx rfl (hb hby at_189) rfl (teq q4).2 ?_
              show own_At p e below T46 m 192 #[iv xf, iv xg, .val (.long xt), .second, .val (.long xq), .second, .val (.long xc), .second, iv bg, iv od, iv v_x, iv v_y, iv v_b1, iv v_b2, iv v_f1, iv v_f2, iv v_c, iv v_fc, rv b1, rv b2, iv (xf + (1 : Int32)), iv (xf + (2 : Int32)), .unset, .unset, .unset, .unset, .unset, .unset] [] _
              refine XS.aload X46.here hx rfl (hb hby at_192) rfl rfl ?_
              show own_At p e below T46 m 194 #[iv xf, iv xg, .val (.long xt), .second, .val (.long xq), .second, .val (.long xc), .second, iv bg, iv od, iv v_x, iv v_y, iv v_b1, iv v_b2, iv v_f1, iv v_f2, iv v_c, iv v_fc, rv b1, rv b2, iv (xf + (1 : Int32)), iv (xf + (2 : Int32)), .unset, .unset, .unset, .unset, .unset, .unset] [(.ref b2)] _
              refine XS.iload X46.here hx rfl (hb hby at_194) rfl ?_
              show own_At p e below T46 m 196 #[iv xf, iv xg, .val (.long xt), .second, .val (.long xq), .second, .val (.long xc), .second, iv bg, iv od, iv v_x, iv v_y, iv v_b1, iv v_b2, iv v_f1, iv v_f2, iv v_c, iv v_fc, rv b1, rv b2, iv (xf + (1 : Int32)), iv (xf + (2 : Int32)), .unset, .unset, .unset, .unset, .unset, .unset] [(.int v_b1), (.ref b2)] _
              refine XS.iload X46.here hx rfl (hb hby at_196) rfl ?_
              show own_At p e below T46 m 198 #[iv xf, iv xg, .val (.long xt), .second, .val (.long xq), .second, .val (.long xc), .second, iv bg, iv od, iv v_x, iv v_y, iv v_b1, iv v_b2, iv v_f1, iv v_f2, iv v_c, iv v_fc, rv b1, rv b2, iv (xf + (1 : Int32)), iv (xf + (2 : Int32)), .unset, .unset, .unset, .unset, .unset, .unset] [(.int (xf + (1 : Int32))), (.int v_b1), (.ref b2)] _
              refine XS.iload X46.here hx rfl (hb hby at_198) rfl ?_
              show own_At p e below T46 m 200 #[iv xf, iv xg, .val (.long xt), .second, .val (.long xq), .second, .val (.long xc), .second, iv bg, iv od, iv v_x, iv v_y, iv v_b1, iv v_b2, iv v_f1, iv v_f2, iv v_c, iv v_fc, rv b1, rv b2, iv (xf + (1 : Int32)), iv (xf + (2 : Int32)), .unset, .unset, .unset, .unset, .unset, .unset] [(.int v_f1), (.int (xf + (1 : Int32))), (.int v_b1), (.ref b2)] _
              exact kt)
            obtain ⟨cq62, kq62, q62a, q62b, q62c⟩ := isOf hZ rfl Eq46
            obtain ⟨_, _, ⟨T62, L62, k62, n62⟩, -, X62, ⟨Lc62, hQ62, l62, y62, z62⟩, ls62⟩ := X46.virtualBack hx (y := (⟨"com/example/ranked_text_search/rankedtextsearch/MemoryTermVectors", "add", "(III)V"⟩ : MethodName)) (z := (⟨"com/example/ranked_text_search/rankedtextsearch/MemoryTermVectors", "add", "(III)V"⟩ : MethodName)) hown (mvT hZ (hw _ (List.mem_of_getElem? (i := 46) rfl))) (mvT hZ (hw _ (List.mem_of_getElem? (i := 47) rfl))) (notFace_of_selects (args := #[]) (mvT hZ (hw _ (List.mem_of_getElem? (i := 49) rfl)))) (mvT hZ (hw _ (List.mem_of_getElem? (i := 49) rfl))) (mvT hZ (hw _ (List.mem_of_getElem? (i := 48) rfl))) (by decide) (backOf (W := 0) (rm_add_1_1 l Z a0 hw [] b2 v_b1 ((xf + (1 : Int32))) v_f1 xf ((own_st 1 3 4)) ((fun _ => (0 : Int32))) ((fun _ => (0 : Int32))) T46.heap n0 Zq46 Vq46 d1 rfl) hZ (hw _ (List.mem_of_getElem? (i := 50) rfl)) (hw _ (List.mem_of_getElem? (i := 10) rfl)) (by decide) (by decide)) q62a q62c (g := (mkF m 200 #[iv xf, iv xg, .val (.long xt), .second, .val (.long xq), .second, .val (.long xc), .second, iv bg, iv od, iv v_x, iv v_y, iv v_b1, iv v_b2, iv v_f1, iv v_f2, iv v_c, iv v_fc, rv b1, rv b2, iv (xf + (1 : Int32)), iv (xf + (2 : Int32)), .unset, .unset, .unset, .unset, .unset, .unset] [(.int v_f1), (.int (xf + (1 : Int32))), (.int v_b1), (.ref b2)])) rfl (by rw [hml]; rfl) (Steps.refl _) (argsL := [(.int v_b1), (.int (xf + (1 : Int32))), (.int v_f1)]) (rest := []) (lenOf own_pd7 rfl) rfl (by show 2 * 0 + _ ≤ _; exact Nat.le_of_eq rfl) (hb hby at_200) (fun _ _ => ⟨rfl, rfl, (by decide : 8 + 0 ≤ _), (by decide : 39 + 0 ≤ _)⟩)
            dsimp only [Pt.U, Pt.locs, Pt.cells, Pt.slots] at X62 l62 y62 z62 ls62 hQ62
            subst l62 y62 z62
            obtain ⟨rfl, Nq62, Zq62, Vq62⟩ := hQ62
            have N62 := Fr.app N46 Nq62
            have st63 : own_Go p e below (T62.setTop (mkF m 203 #[iv xf, iv xg, .val (.long xt), .second, .val (.long xq), .second, .val (.long xc), .second, iv bg, iv od, iv v_x, iv v_y, iv v_b1, iv v_b2, iv v_f1, iv v_f2, iv v_c, iv v_fc, rv b1, rv b2, iv (xf + (1 : Int32)), iv (xf + (2 : Int32)), .unset, .unset, .unset, .unset, .unset, .unset] [])) B0 := fun t kt => st61 t (ls62.trans kt)
            have Eq62 := Vq62.1
            have st64 : own_Go p e below (T62.setTop (mkF m 211 #[iv xf, iv xg, .val (.long xt), .second, .val (.long xq), .second, .val (.long xc), .second, iv bg, iv od, iv v_x, iv v_y, iv v_b1, iv v_b2, iv v_f1, iv v_f2, iv v_c, iv v_fc, rv b1, rv b2, iv (xf + (1 : Int32)), iv (xf + (2 : Int32)), .unset, .unset, .unset, .unset, .unset, .unset] [(.int v_fc), (.int (xf + (2 : Int32))), (.int v_c), (.ref b2)])) B0 := fun t kt => st63 t (by
              show own_At p e below T62 m 203 #[iv xf, iv xg, .val (.long xt), .second, .val (.long xq), .second, .val (.long xc), .second, iv bg, iv od, iv v_x, iv v_y, iv v_b1, iv v_b2, iv v_f1, iv v_f2, iv v_c, iv v_fc, rv b1, rv b2, iv (xf + (1 : Int32)), iv (xf + (2 : Int32)), .unset, .unset, .unset, .unset, .unset, .unset] [] _
              refine XS.aload X62.here hx rfl (hb hby at_203) rfl rfl ?_
              show own_At p e below T62 m 205 #[iv xf, iv xg, .val (.long xt), .second, .val (.long xq), .second, .val (.long xc), .second, iv bg, iv od, iv v_x, iv v_y, iv v_b1, iv v_b2, iv v_f1, iv v_f2, iv v_c, iv v_fc, rv b1, rv b2, iv (xf + (1 : Int32)), iv (xf + (2 : Int32)), .unset, .unset, .unset, .unset, .unset, .unset] [(.ref b2)] _
              refine XS.iload X62.here hx rfl (hb hby at_205) rfl ?_
              show own_At p e below T62 m 207 #[iv xf, iv xg, .val (.long xt), .second, .val (.long xq), .second, .val (.long xc), .second, iv bg, iv od, iv v_x, iv v_y, iv v_b1, iv v_b2, iv v_f1, iv v_f2, iv v_c, iv v_fc, rv b1, rv b2, iv (xf + (1 : Int32)), iv (xf + (2 : Int32)), .unset, .unset, .unset, .unset, .unset, .unset] [(.int v_c), (.ref b2)] _
              refine XS.iload X62.here hx rfl (hb hby at_207) rfl ?_
              show own_At p e below T62 m 209 #[iv xf, iv xg, .val (.long xt), .second, .val (.long xq), .second, .val (.long xc), .second, iv bg, iv od, iv v_x, iv v_y, iv v_b1, iv v_b2, iv v_f1, iv v_f2, iv v_c, iv v_fc, rv b1, rv b2, iv (xf + (1 : Int32)), iv (xf + (2 : Int32)), .unset, .unset, .unset, .unset, .unset, .unset] [(.int (xf + (2 : Int32))), (.int v_c), (.ref b2)] _
              refine XS.iload X62.here hx rfl (hb hby at_209) rfl ?_
              show own_At p e below T62 m 211 #[iv xf, iv xg, .val (.long xt), .second, .val (.long xq), .second, .val (.long xc), .second, iv bg, iv od, iv v_x, iv v_y, iv v_b1, iv v_b2, iv v_f1, iv v_f2, iv v_c, iv v_fc, rv b1, rv b2, iv (xf + (1 : Int32)), iv (xf + (2 : Int32)), .unset, .unset, .unset, .unset, .unset, .unset] [(.int v_fc), (.int (xf + (2 : Int32))), (.int v_c), (.ref b2)] _
              exact kt)
            obtain ⟨cq65, kq65, q65a, q65b, q65c⟩ := isOf hZ rfl Eq62
            obtain ⟨_, _, ⟨T65, L65, k65, n65⟩, -, X65, ⟨Lc65, hQ65, l65, y65, z65⟩, ls65⟩ := X62.virtualBack hx (y := (⟨"com/example/ranked_text_search/rankedtextsearch/MemoryTermVectors", "add", "(III)V"⟩ : MethodName)) (z := (⟨"com/example/ranked_text_search/rankedtextsearch/MemoryTermVectors", "add", "(III)V"⟩ : MethodName)) hown (mvT hZ (hw _ (List.mem_of_getElem? (i := 46) rfl))) (mvT hZ (hw _ (List.mem_of_getElem? (i := 47) rfl))) (notFace_of_selects (args := #[]) (mvT hZ (hw _ (List.mem_of_getElem? (i := 49) rfl)))) (mvT hZ (hw _ (List.mem_of_getElem? (i := 49) rfl))) (mvT hZ (hw _ (List.mem_of_getElem? (i := 48) rfl))) (by decide) (backOf (W := 0) (rm_add_2_3 l Z a0 hw [] b2 v_c ((xf + (2 : Int32))) v_fc xf ((fun q => if q = 1 then 2 else (own_st 1 3 4) q)) ((fun q => if q = 1 then v_b1 else (fun _ => (0 : Int32)) q)) ((fun q => if q = 1 then v_f1 else (fun _ => (0 : Int32)) q)) T62.heap n0 Zq62 Vq62 d2 rfl) hZ (hw _ (List.mem_of_getElem? (i := 50) rfl)) (hw _ (List.mem_of_getElem? (i := 10) rfl)) (by decide) (by decide)) q65a q65c (g := (mkF m 211 #[iv xf, iv xg, .val (.long xt), .second, .val (.long xq), .second, .val (.long xc), .second, iv bg, iv od, iv v_x, iv v_y, iv v_b1, iv v_b2, iv v_f1, iv v_f2, iv v_c, iv v_fc, rv b1, rv b2, iv (xf + (1 : Int32)), iv (xf + (2 : Int32)), .unset, .unset, .unset, .unset, .unset, .unset] [(.int v_fc), (.int (xf + (2 : Int32))), (.int v_c), (.ref b2)])) rfl (by rw [hml]; rfl) (Steps.refl _) (argsL := [(.int v_c), (.int (xf + (2 : Int32))), (.int v_fc)]) (rest := []) (lenOf own_pd7 rfl) rfl (by show 2 * 0 + _ ≤ _; exact Nat.le_of_eq rfl) (hb hby at_211) (fun _ _ => ⟨rfl, rfl, (by decide : 8 + 0 ≤ _), (by decide : 39 + 0 ≤ _)⟩)
            dsimp only [Pt.U, Pt.locs, Pt.cells, Pt.slots] at X65 l65 y65 z65 ls65 hQ65
            subst l65 y65 z65
            obtain ⟨rfl, Nq65, Zq65, Vq65⟩ := hQ65
            have N65 := Fr.app N62 Nq65
            have st66 : own_Go p e below (T65.setTop (mkF m 214 #[iv xf, iv xg, .val (.long xt), .second, .val (.long xq), .second, .val (.long xc), .second, iv bg, iv od, iv v_x, iv v_y, iv v_b1, iv v_b2, iv v_f1, iv v_f2, iv v_c, iv v_fc, rv b1, rv b2, iv (xf + (1 : Int32)), iv (xf + (2 : Int32)), .unset, .unset, .unset, .unset, .unset, .unset] [])) B0 := fun t kt => st64 t (ls65.trans kt)
            have Eq65 := Vq65.1
            have st67 : own_Go p e below (T65.setTop (mkF m 222 #[iv xf, iv xg, .val (.long xt), .second, .val (.long xq), .second, .val (.long xc), .second, iv bg, iv od, iv v_x, iv v_y, iv v_b1, iv v_b2, iv v_f1, iv v_f2, iv v_c, iv v_fc, rv b1, rv b2, iv (xf + (1 : Int32)), iv (xf + (2 : Int32)), .unset, .unset, .unset, .unset, .unset, .unset] [(.int v_f2), (.int (xf + (1 : Int32))), (.int v_b2), (.ref b2)])) B0 := fun t kt => st66 t (by
              show own_At p e below T65 m 214 #[iv xf, iv xg, .val (.long xt), .second, .val (.long xq), .second, .val (.long xc), .second, iv bg, iv od, iv v_x, iv v_y, iv v_b1, iv v_b2, iv v_f1, iv v_f2, iv v_c, iv v_fc, rv b1, rv b2, iv (xf + (1 : Int32)), iv (xf + (2 : Int32)), .unset, .unset, .unset, .unset, .unset, .unset] [] _
              refine XS.aload X65.here hx rfl (hb hby at_214) rfl rfl ?_
              show own_At p e below T65 m 216 #[iv xf, iv xg, .val (.long xt), .second, .val (.long xq), .second, .val (.long xc), .second, iv bg, iv od, iv v_x, iv v_y, iv v_b1, iv v_b2, iv v_f1, iv v_f2, iv v_c, iv v_fc, rv b1, rv b2, iv (xf + (1 : Int32)), iv (xf + (2 : Int32)), .unset, .unset, .unset, .unset, .unset, .unset] [(.ref b2)] _
              refine XS.iload X65.here hx rfl (hb hby at_216) rfl ?_
              show own_At p e below T65 m 218 #[iv xf, iv xg, .val (.long xt), .second, .val (.long xq), .second, .val (.long xc), .second, iv bg, iv od, iv v_x, iv v_y, iv v_b1, iv v_b2, iv v_f1, iv v_f2, iv v_c, iv v_fc, rv b1, rv b2, iv (xf + (1 : Int32)), iv (xf + (2 : Int32)), .unset, .unset, .unset, .unset, .unset, .unset] [(.int v_b2), (.ref b2)] _
              refine XS.iload X65.here hx rfl (hb hby at_218) rfl ?_
              show own_At p e below T65 m 220 #[iv xf, iv xg, .val (.long xt), .second, .val (.long xq), .second, .val (.long xc), .second, iv bg, iv od, iv v_x, iv v_y, iv v_b1, iv v_b2, iv v_f1, iv v_f2, iv v_c, iv v_fc, rv b1, rv b2, iv (xf + (1 : Int32)), iv (xf + (2 : Int32)), .unset, .unset, .unset, .unset, .unset, .unset] [(.int (xf + (1 : Int32))), (.int v_b2), (.ref b2)] _
              refine XS.iload X65.here hx rfl (hb hby at_220) rfl ?_
              show own_At p e below T65 m 222 #[iv xf, iv xg, .val (.long xt), .second, .val (.long xq), .second, .val (.long xc), .second, iv bg, iv od, iv v_x, iv v_y, iv v_b1, iv v_b2, iv v_f1, iv v_f2, iv v_c, iv v_fc, rv b1, rv b2, iv (xf + (1 : Int32)), iv (xf + (2 : Int32)), .unset, .unset, .unset, .unset, .unset, .unset] [(.int v_f2), (.int (xf + (1 : Int32))), (.int v_b2), (.ref b2)] _
              exact kt)
            obtain ⟨cq68, kq68, q68a, q68b, q68c⟩ := isOf hZ rfl Eq65
            obtain ⟨_, _, ⟨T68, L68, k68, n68⟩, -, X68, ⟨Lc68, hQ68, l68, y68, z68⟩, ls68⟩ := X65.virtualBack hx (y := (⟨"com/example/ranked_text_search/rankedtextsearch/MemoryTermVectors", "add", "(III)V"⟩ : MethodName)) (z := (⟨"com/example/ranked_text_search/rankedtextsearch/MemoryTermVectors", "add", "(III)V"⟩ : MethodName)) hown (mvT hZ (hw _ (List.mem_of_getElem? (i := 46) rfl))) (mvT hZ (hw _ (List.mem_of_getElem? (i := 47) rfl))) (notFace_of_selects (args := #[]) (mvT hZ (hw _ (List.mem_of_getElem? (i := 49) rfl)))) (mvT hZ (hw _ (List.mem_of_getElem? (i := 49) rfl))) (mvT hZ (hw _ (List.mem_of_getElem? (i := 48) rfl))) (by decide) (backOf (W := 0) (rm_add_1_2 l Z a0 hw [] b2 v_b2 ((xf + (1 : Int32))) v_f2 xf ((fun q => if q = 2 then 4 else (fun q => if q = 1 then 2 else (own_st 1 3 4) q) q)) ((fun q => if q = 3 then v_c else (fun q => if q = 1 then v_b1 else (fun _ => (0 : Int32)) q) q)) ((fun q => if q = 3 then v_fc else (fun q => if q = 1 then v_f1 else (fun _ => (0 : Int32)) q) q)) T65.heap n0 Zq65 Vq65 d1 rfl) hZ (hw _ (List.mem_of_getElem? (i := 50) rfl)) (hw _ (List.mem_of_getElem? (i := 10) rfl)) (by decide) (by decide)) q68a q68c (g := (mkF m 222 #[iv xf, iv xg, .val (.long xt), .second, .val (.long xq), .second, .val (.long xc), .second, iv bg, iv od, iv v_x, iv v_y, iv v_b1, iv v_b2, iv v_f1, iv v_f2, iv v_c, iv v_fc, rv b1, rv b2, iv (xf + (1 : Int32)), iv (xf + (2 : Int32)), .unset, .unset, .unset, .unset, .unset, .unset] [(.int v_f2), (.int (xf + (1 : Int32))), (.int v_b2), (.ref b2)])) rfl (by rw [hml]; rfl) (Steps.refl _) (argsL := [(.int v_b2), (.int (xf + (1 : Int32))), (.int v_f2)]) (rest := []) (lenOf own_pd7 rfl) rfl (by show 2 * 0 + _ ≤ _; exact Nat.le_of_eq rfl) (hb hby at_222) (fun _ _ => ⟨rfl, rfl, (by decide : 8 + 0 ≤ _), (by decide : 39 + 0 ≤ _)⟩)
            dsimp only [Pt.U, Pt.locs, Pt.cells, Pt.slots] at X68 l68 y68 z68 ls68 hQ68
            subst l68 y68 z68
            obtain ⟨rfl, Nq68, Zq68, Vq68⟩ := hQ68
            have N68 := Fr.app N65 Nq68
            have st69 : own_Go p e below (T68.setTop (mkF m 225 #[iv xf, iv xg, .val (.long xt), .second, .val (.long xq), .second, .val (.long xc), .second, iv bg, iv od, iv v_x, iv v_y, iv v_b1, iv v_b2, iv v_f1, iv v_f2, iv v_c, iv v_fc, rv b1, rv b2, iv (xf + (1 : Int32)), iv (xf + (2 : Int32)), .unset, .unset, .unset, .unset, .unset, .unset] [])) B0 := fun t kt => st67 t (ls68.trans kt)
            have Eq68 := Vq68.1
            have st70 : own_Go p e below (T68.setTop (mkF m 261 #[iv xf, iv xg, .val (.long xt), .second, .val (.long xq), .second, .val (.long xc), .second, iv bg, iv od, iv v_x, iv v_y, iv v_b1, iv v_b2, iv v_f1, iv v_f2, iv v_c, iv v_fc, rv b1, rv b2, iv (xf + (1 : Int32)), iv (xf + (2 : Int32)), .unset, .unset, .unset, .unset, .unset, .unset] [])) B0 := fun t kt => st69 t (by
              show own_At p e below T68 m 225 #[iv xf, iv xg, .val (.long xt), .second, .val (.long xq), .second, .val (.long xc), .second, iv bg, iv od, iv v_x, iv v_y, iv v_b1, iv v_b2, iv v_f1, iv v_f2, iv v_c, iv v_fc, rv b1, rv b2, iv (xf + (1 : Int32)), iv (xf + (2 : Int32)), .unset, .unset, .unset, .unset, .unset, .unset] [] _
              refine XS.goto X68.here hx rfl (pc0 := 225) (pc' := 261) rfl (hb hby at_225) (by decide) (by decide) ?_
              show own_At p e below T68 m 261 #[iv xf, iv xg, .val (.long xt), .second, .val (.long xq), .second, .val (.long xc), .second, iv bg, iv od, iv v_x, iv v_y, iv v_b1, iv v_b2, iv v_f1, iv v_f2, iv v_c, iv v_fc, rv b1, rv b2, iv (xf + (1 : Int32)), iv (xf + (2 : Int32)), .unset, .unset, .unset, .unset, .unset, .unset] [] _
              exact kt)
            exact ⟨_, _, X68.more (by decide) (by decide), N68, Zq68, Vq68.to (fun q => by
                (try dsimp only [own_st])
                (repeat' split) <;> first | rfl | omega) (fun q => by
                (try dsimp only [own_st])
                (repeat' split) <;> first | rfl | omega) (fun q => by
                (try dsimp only [own_st])
                (repeat' split) <;> first | rfl | omega), st70⟩
          · have st71 : own_Go p e below (T46.setTop (mkF m 236 #[iv xf, iv xg, .val (.long xt), .second, .val (.long xq), .second, .val (.long xc), .second, iv bg, iv od, iv v_x, iv v_y, iv v_b1, iv v_b2, iv v_f1, iv v_f2, iv v_c, iv v_fc, rv b1, rv b2, iv (xf + (1 : Int32)), iv (xf + (2 : Int32)), .unset, .unset, .unset, .unset, .unset, .unset] [(.int v_fc), (.int (xf + (2 : Int32))), (.int v_c), (.ref b2)])) B0 := fun t kt => st60 t (by
              show own_At p e below T46 m 189 #[iv xf, iv xg, .val (.long xt), .second, .val (.long xq), .second, .val (.long xc), .second, iv bg, iv od, iv v_x, iv v_y, iv v_b1, iv v_b2, iv v_f1, iv v_f2, iv v_c, iv v_fc, rv b1, rv b2, iv (xf + (1 : Int32)), iv (xf + (2 : Int32)), .unset, .unset, .unset, .unset, .unset, .unset] [(.int (1 : Int32)), (.int od)] _
              refine XS.icmpYes X46.here hx rfl (pc0 := 189) (pc' := 228) rfl (hb hby at_189) rfl (feq q4).2 (by decide) (by decide) ?_
              show own_At p e below T46 m 228 #[iv xf, iv xg, .val (.long xt), .second, .val (.long xq), .second, .val (.long xc), .second, iv bg, iv od, iv v_x, iv v_y, iv v_b1, iv v_b2, iv v_f1, iv v_f2, iv v_c, iv v_fc, rv b1, rv b2, iv (xf + (1 : Int32)), iv (xf + (2 : Int32)), .unset, .unset, .unset, .unset, .unset, .unset] [] _
              refine XS.aload X46.here hx rfl (hb hby at_228) rfl rfl ?_
              show own_At p e below T46 m 230 #[iv xf, iv xg, .val (.long xt), .second, .val (.long xq), .second, .val (.long xc), .second, iv bg, iv od, iv v_x, iv v_y, iv v_b1, iv v_b2, iv v_f1, iv v_f2, iv v_c, iv v_fc, rv b1, rv b2, iv (xf + (1 : Int32)), iv (xf + (2 : Int32)), .unset, .unset, .unset, .unset, .unset, .unset] [(.ref b2)] _
              refine XS.iload X46.here hx rfl (hb hby at_230) rfl ?_
              show own_At p e below T46 m 232 #[iv xf, iv xg, .val (.long xt), .second, .val (.long xq), .second, .val (.long xc), .second, iv bg, iv od, iv v_x, iv v_y, iv v_b1, iv v_b2, iv v_f1, iv v_f2, iv v_c, iv v_fc, rv b1, rv b2, iv (xf + (1 : Int32)), iv (xf + (2 : Int32)), .unset, .unset, .unset, .unset, .unset, .unset] [(.int v_c), (.ref b2)] _
              refine XS.iload X46.here hx rfl (hb hby at_232) rfl ?_
              show own_At p e below T46 m 234 #[iv xf, iv xg, .val (.long xt), .second, .val (.long xq), .second, .val (.long xc), .second, iv bg, iv od, iv v_x, iv v_y, iv v_b1, iv v_b2, iv v_f1, iv v_f2, iv v_c, iv v_fc, rv b1, rv b2, iv (xf + (1 : Int32)), iv (xf + (2 : Int32)), .unset, .unset, .unset, .unset, .unset, .unset] [(.int (xf + (2 : Int32))), (.int v_c), (.ref b2)] _
              refine XS.iload X46.here hx rfl (hb hby at_234) rfl ?_
              show own_At p e below T46 m 236 #[iv xf, iv xg, .val (.long xt), .second, .val (.long xq), .second, .val (.long xc), .second, iv bg, iv od, iv v_x, iv v_y, iv v_b1, iv v_b2, iv v_f1, iv v_f2, iv v_c, iv v_fc, rv b1, rv b2, iv (xf + (1 : Int32)), iv (xf + (2 : Int32)), .unset, .unset, .unset, .unset, .unset, .unset] [(.int v_fc), (.int (xf + (2 : Int32))), (.int v_c), (.ref b2)] _
              exact kt)
            obtain ⟨cq72, kq72, q72a, q72b, q72c⟩ := isOf hZ rfl Eq46
            obtain ⟨_, _, ⟨T72, L72, k72, n72⟩, -, X72, ⟨Lc72, hQ72, l72, y72, z72⟩, ls72⟩ := X46.virtualBack hx (y := (⟨"com/example/ranked_text_search/rankedtextsearch/MemoryTermVectors", "add", "(III)V"⟩ : MethodName)) (z := (⟨"com/example/ranked_text_search/rankedtextsearch/MemoryTermVectors", "add", "(III)V"⟩ : MethodName)) hown (mvT hZ (hw _ (List.mem_of_getElem? (i := 46) rfl))) (mvT hZ (hw _ (List.mem_of_getElem? (i := 47) rfl))) (notFace_of_selects (args := #[]) (mvT hZ (hw _ (List.mem_of_getElem? (i := 49) rfl)))) (mvT hZ (hw _ (List.mem_of_getElem? (i := 49) rfl))) (mvT hZ (hw _ (List.mem_of_getElem? (i := 48) rfl))) (by decide) (backOf (W := 0) (rm_add_2_3 l Z a0 hw [] b2 v_c ((xf + (2 : Int32))) v_fc xf ((own_st 1 3 4)) ((fun _ => (0 : Int32))) ((fun _ => (0 : Int32))) T46.heap n0 Zq46 Vq46 d2 rfl) hZ (hw _ (List.mem_of_getElem? (i := 50) rfl)) (hw _ (List.mem_of_getElem? (i := 10) rfl)) (by decide) (by decide)) q72a q72c (g := (mkF m 236 #[iv xf, iv xg, .val (.long xt), .second, .val (.long xq), .second, .val (.long xc), .second, iv bg, iv od, iv v_x, iv v_y, iv v_b1, iv v_b2, iv v_f1, iv v_f2, iv v_c, iv v_fc, rv b1, rv b2, iv (xf + (1 : Int32)), iv (xf + (2 : Int32)), .unset, .unset, .unset, .unset, .unset, .unset] [(.int v_fc), (.int (xf + (2 : Int32))), (.int v_c), (.ref b2)])) rfl (by rw [hml]; rfl) (Steps.refl _) (argsL := [(.int v_c), (.int (xf + (2 : Int32))), (.int v_fc)]) (rest := []) (lenOf own_pd7 rfl) rfl (by show 2 * 0 + _ ≤ _; exact Nat.le_of_eq rfl) (hb hby at_236) (fun _ _ => ⟨rfl, rfl, (by decide : 8 + 0 ≤ _), (by decide : 39 + 0 ≤ _)⟩)
            dsimp only [Pt.U, Pt.locs, Pt.cells, Pt.slots] at X72 l72 y72 z72 ls72 hQ72
            subst l72 y72 z72
            obtain ⟨rfl, Nq72, Zq72, Vq72⟩ := hQ72
            have N72 := Fr.app N46 Nq72
            have st73 : own_Go p e below (T72.setTop (mkF m 239 #[iv xf, iv xg, .val (.long xt), .second, .val (.long xq), .second, .val (.long xc), .second, iv bg, iv od, iv v_x, iv v_y, iv v_b1, iv v_b2, iv v_f1, iv v_f2, iv v_c, iv v_fc, rv b1, rv b2, iv (xf + (1 : Int32)), iv (xf + (2 : Int32)), .unset, .unset, .unset, .unset, .unset, .unset] [])) B0 := fun t kt => st71 t (ls72.trans kt)
            have Eq72 := Vq72.1
            have st74 : own_Go p e below (T72.setTop (mkF m 247 #[iv xf, iv xg, .val (.long xt), .second, .val (.long xq), .second, .val (.long xc), .second, iv bg, iv od, iv v_x, iv v_y, iv v_b1, iv v_b2, iv v_f1, iv v_f2, iv v_c, iv v_fc, rv b1, rv b2, iv (xf + (1 : Int32)), iv (xf + (2 : Int32)), .unset, .unset, .unset, .unset, .unset, .unset] [(.int v_f1), (.int (xf + (1 : Int32))), (.int v_b1), (.ref b2)])) B0 := fun t kt => st73 t (by
              show own_At p e below T72 m 239 #[iv xf, iv xg, .val (.long xt), .second, .val (.long xq), .second, .val (.long xc), .second, iv bg, iv od, iv v_x, iv v_y, iv v_b1, iv v_b2, iv v_f1, iv v_f2, iv v_c, iv v_fc, rv b1, rv b2, iv (xf + (1 : Int32)), iv (xf + (2 : Int32)), .unset, .unset, .unset, .unset, .unset, .unset] [] _
              refine XS.aload X72.here hx rfl (hb hby at_239) rfl rfl ?_
              show own_At p e below T72 m 241 #[iv xf, iv xg, .val (.long xt), .second, .val (.long xq), .second, .val (.long xc), .second, iv bg, iv od, iv v_x, iv v_y, iv v_b1, iv v_b2, iv v_f1, iv v_f2, iv v_c, iv v_fc, rv b1, rv b2, iv (xf + (1 : Int32)), iv (xf + (2 : Int32)), .unset, .unset, .unset, .unset, .unset, .unset] [(.ref b2)] _
              refine XS.iload X72.here hx rfl (hb hby at_241) rfl ?_
              show own_At p e below T72 m 243 #[iv xf, iv xg, .val (.long xt), .second, .val (.long xq), .second, .val (.long xc), .second, iv bg, iv od, iv v_x, iv v_y, iv v_b1, iv v_b2, iv v_f1, iv v_f2, iv v_c, iv v_fc, rv b1, rv b2, iv (xf + (1 : Int32)), iv (xf + (2 : Int32)), .unset, .unset, .unset, .unset, .unset, .unset] [(.int v_b1), (.ref b2)] _
              refine XS.iload X72.here hx rfl (hb hby at_243) rfl ?_
              show own_At p e below T72 m 245 #[iv xf, iv xg, .val (.long xt), .second, .val (.long xq), .second, .val (.long xc), .second, iv bg, iv od, iv v_x, iv v_y, iv v_b1, iv v_b2, iv v_f1, iv v_f2, iv v_c, iv v_fc, rv b1, rv b2, iv (xf + (1 : Int32)), iv (xf + (2 : Int32)), .unset, .unset, .unset, .unset, .unset, .unset] [(.int (xf + (1 : Int32))), (.int v_b1), (.ref b2)] _
              refine XS.iload X72.here hx rfl (hb hby at_245) rfl ?_
              show own_At p e below T72 m 247 #[iv xf, iv xg, .val (.long xt), .second, .val (.long xq), .second, .val (.long xc), .second, iv bg, iv od, iv v_x, iv v_y, iv v_b1, iv v_b2, iv v_f1, iv v_f2, iv v_c, iv v_fc, rv b1, rv b2, iv (xf + (1 : Int32)), iv (xf + (2 : Int32)), .unset, .unset, .unset, .unset, .unset, .unset] [(.int v_f1), (.int (xf + (1 : Int32))), (.int v_b1), (.ref b2)] _
              exact kt)
            obtain ⟨cq75, kq75, q75a, q75b, q75c⟩ := isOf hZ rfl Eq72
            obtain ⟨_, _, ⟨T75, L75, k75, n75⟩, -, X75, ⟨Lc75, hQ75, l75, y75, z75⟩, ls75⟩ := X72.virtualBack hx (y := (⟨"com/example/ranked_text_search/rankedtextsearch/MemoryTermVectors", "add", "(III)V"⟩ : MethodName)) (z := (⟨"com/example/ranked_text_search/rankedtextsearch/MemoryTermVectors", "add", "(III)V"⟩ : MethodName)) hown (mvT hZ (hw _ (List.mem_of_getElem? (i := 46) rfl))) (mvT hZ (hw _ (List.mem_of_getElem? (i := 47) rfl))) (notFace_of_selects (args := #[]) (mvT hZ (hw _ (List.mem_of_getElem? (i := 49) rfl)))) (mvT hZ (hw _ (List.mem_of_getElem? (i := 49) rfl))) (mvT hZ (hw _ (List.mem_of_getElem? (i := 48) rfl))) (by decide) (backOf (W := 0) (rm_add_1_1 l Z a0 hw [] b2 v_b1 ((xf + (1 : Int32))) v_f1 xf ((fun q => if q = 2 then 4 else (own_st 1 3 4) q)) ((fun q => if q = 3 then v_c else (fun _ => (0 : Int32)) q)) ((fun q => if q = 3 then v_fc else (fun _ => (0 : Int32)) q)) T72.heap n0 Zq72 Vq72 d1 rfl) hZ (hw _ (List.mem_of_getElem? (i := 50) rfl)) (hw _ (List.mem_of_getElem? (i := 10) rfl)) (by decide) (by decide)) q75a q75c (g := (mkF m 247 #[iv xf, iv xg, .val (.long xt), .second, .val (.long xq), .second, .val (.long xc), .second, iv bg, iv od, iv v_x, iv v_y, iv v_b1, iv v_b2, iv v_f1, iv v_f2, iv v_c, iv v_fc, rv b1, rv b2, iv (xf + (1 : Int32)), iv (xf + (2 : Int32)), .unset, .unset, .unset, .unset, .unset, .unset] [(.int v_f1), (.int (xf + (1 : Int32))), (.int v_b1), (.ref b2)])) rfl (by rw [hml]; rfl) (Steps.refl _) (argsL := [(.int v_b1), (.int (xf + (1 : Int32))), (.int v_f1)]) (rest := []) (lenOf own_pd7 rfl) rfl (by show 2 * 0 + _ ≤ _; exact Nat.le_of_eq rfl) (hb hby at_247) (fun _ _ => ⟨rfl, rfl, (by decide : 8 + 0 ≤ _), (by decide : 39 + 0 ≤ _)⟩)
            dsimp only [Pt.U, Pt.locs, Pt.cells, Pt.slots] at X75 l75 y75 z75 ls75 hQ75
            subst l75 y75 z75
            obtain ⟨rfl, Nq75, Zq75, Vq75⟩ := hQ75
            have N75 := Fr.app N72 Nq75
            have st76 : own_Go p e below (T75.setTop (mkF m 250 #[iv xf, iv xg, .val (.long xt), .second, .val (.long xq), .second, .val (.long xc), .second, iv bg, iv od, iv v_x, iv v_y, iv v_b1, iv v_b2, iv v_f1, iv v_f2, iv v_c, iv v_fc, rv b1, rv b2, iv (xf + (1 : Int32)), iv (xf + (2 : Int32)), .unset, .unset, .unset, .unset, .unset, .unset] [])) B0 := fun t kt => st74 t (ls75.trans kt)
            have Eq75 := Vq75.1
            have st77 : own_Go p e below (T75.setTop (mkF m 258 #[iv xf, iv xg, .val (.long xt), .second, .val (.long xq), .second, .val (.long xc), .second, iv bg, iv od, iv v_x, iv v_y, iv v_b1, iv v_b2, iv v_f1, iv v_f2, iv v_c, iv v_fc, rv b1, rv b2, iv (xf + (1 : Int32)), iv (xf + (2 : Int32)), .unset, .unset, .unset, .unset, .unset, .unset] [(.int v_f2), (.int (xf + (1 : Int32))), (.int v_b2), (.ref b2)])) B0 := fun t kt => st76 t (by
              show own_At p e below T75 m 250 #[iv xf, iv xg, .val (.long xt), .second, .val (.long xq), .second, .val (.long xc), .second, iv bg, iv od, iv v_x, iv v_y, iv v_b1, iv v_b2, iv v_f1, iv v_f2, iv v_c, iv v_fc, rv b1, rv b2, iv (xf + (1 : Int32)), iv (xf + (2 : Int32)), .unset, .unset, .unset, .unset, .unset, .unset] [] _
              refine XS.aload X75.here hx rfl (hb hby at_250) rfl rfl ?_
              show own_At p e below T75 m 252 #[iv xf, iv xg, .val (.long xt), .second, .val (.long xq), .second, .val (.long xc), .second, iv bg, iv od, iv v_x, iv v_y, iv v_b1, iv v_b2, iv v_f1, iv v_f2, iv v_c, iv v_fc, rv b1, rv b2, iv (xf + (1 : Int32)), iv (xf + (2 : Int32)), .unset, .unset, .unset, .unset, .unset, .unset] [(.ref b2)] _
              refine XS.iload X75.here hx rfl (hb hby at_252) rfl ?_
              show own_At p e below T75 m 254 #[iv xf, iv xg, .val (.long xt), .second, .val (.long xq), .second, .val (.long xc), .second, iv bg, iv od, iv v_x, iv v_y, iv v_b1, iv v_b2, iv v_f1, iv v_f2, iv v_c, iv v_fc, rv b1, rv b2, iv (xf + (1 : Int32)), iv (xf + (2 : Int32)), .unset, .unset, .unset, .unset, .unset, .unset] [(.int v_b2), (.ref b2)] _
              refine XS.iload X75.here hx rfl (hb hby at_254) rfl ?_
              show own_At p e below T75 m 256 #[iv xf, iv xg, .val (.long xt), .second, .val (.long xq), .second, .val (.long xc), .second, iv bg, iv od, iv v_x, iv v_y, iv v_b1, iv v_b2, iv v_f1, iv v_f2, iv v_c, iv v_fc, rv b1, rv b2, iv (xf + (1 : Int32)), iv (xf + (2 : Int32)), .unset, .unset, .unset, .unset, .unset, .unset] [(.int (xf + (1 : Int32))), (.int v_b2), (.ref b2)] _
              refine XS.iload X75.here hx rfl (hb hby at_256) rfl ?_
              show own_At p e below T75 m 258 #[iv xf, iv xg, .val (.long xt), .second, .val (.long xq), .second, .val (.long xc), .second, iv bg, iv od, iv v_x, iv v_y, iv v_b1, iv v_b2, iv v_f1, iv v_f2, iv v_c, iv v_fc, rv b1, rv b2, iv (xf + (1 : Int32)), iv (xf + (2 : Int32)), .unset, .unset, .unset, .unset, .unset, .unset] [(.int v_f2), (.int (xf + (1 : Int32))), (.int v_b2), (.ref b2)] _
              exact kt)
            obtain ⟨cq78, kq78, q78a, q78b, q78c⟩ := isOf hZ rfl Eq75
            obtain ⟨_, _, ⟨T78, L78, k78, n78⟩, -, X78, ⟨Lc78, hQ78, l78, y78, z78⟩, ls78⟩ := X75.virtualBack hx (y := (⟨"com/example/ranked_text_search/rankedtextsearch/MemoryTermVectors", "add", "(III)V"⟩ : MethodName)) (z := (⟨"com/example/ranked_text_search/rankedtextsearch/MemoryTermVectors", "add", "(III)V"⟩ : MethodName)) hown (mvT hZ (hw _ (List.mem_of_getElem? (i := 46) rfl))) (mvT hZ (hw _ (List.mem_of_getElem? (i := 47) rfl))) (notFace_of_selects (args := #[]) (mvT hZ (hw _ (List.mem_of_getElem? (i := 49) rfl)))) (mvT hZ (hw _ (List.mem_of_getElem? (i := 49) rfl))) (mvT hZ (hw _ (List.mem_of_getElem? (i := 48) rfl))) (by decide) (backOf (W := 0) (rm_add_1_2 l Z a0 hw [] b2 v_b2 ((xf + (1 : Int32))) v_f2 xf ((fun q => if q = 1 then 2 else (fun q => if q = 2 then 4 else (own_st 1 3 4) q) q)) ((fun q => if q = 1 then v_b1 else (fun q => if q = 3 then v_c else (fun _ => (0 : Int32)) q) q)) ((fun q => if q = 1 then v_f1 else (fun q => if q = 3 then v_fc else (fun _ => (0 : Int32)) q) q)) T75.heap n0 Zq75 Vq75 d1 rfl) hZ (hw _ (List.mem_of_getElem? (i := 50) rfl)) (hw _ (List.mem_of_getElem? (i := 10) rfl)) (by decide) (by decide)) q78a q78c (g := (mkF m 258 #[iv xf, iv xg, .val (.long xt), .second, .val (.long xq), .second, .val (.long xc), .second, iv bg, iv od, iv v_x, iv v_y, iv v_b1, iv v_b2, iv v_f1, iv v_f2, iv v_c, iv v_fc, rv b1, rv b2, iv (xf + (1 : Int32)), iv (xf + (2 : Int32)), .unset, .unset, .unset, .unset, .unset, .unset] [(.int v_f2), (.int (xf + (1 : Int32))), (.int v_b2), (.ref b2)])) rfl (by rw [hml]; rfl) (Steps.refl _) (argsL := [(.int v_b2), (.int (xf + (1 : Int32))), (.int v_f2)]) (rest := []) (lenOf own_pd7 rfl) rfl (by show 2 * 0 + _ ≤ _; exact Nat.le_of_eq rfl) (hb hby at_258) (fun _ _ => ⟨rfl, rfl, (by decide : 8 + 0 ≤ _), (by decide : 39 + 0 ≤ _)⟩)
            dsimp only [Pt.U, Pt.locs, Pt.cells, Pt.slots] at X78 l78 y78 z78 ls78 hQ78
            subst l78 y78 z78
            obtain ⟨rfl, Nq78, Zq78, Vq78⟩ := hQ78
            have N78 := Fr.app N75 Nq78
            have st79 : own_Go p e below (T78.setTop (mkF m 261 #[iv xf, iv xg, .val (.long xt), .second, .val (.long xq), .second, .val (.long xc), .second, iv bg, iv od, iv v_x, iv v_y, iv v_b1, iv v_b2, iv v_f1, iv v_f2, iv v_c, iv v_fc, rv b1, rv b2, iv (xf + (1 : Int32)), iv (xf + (2 : Int32)), .unset, .unset, .unset, .unset, .unset, .unset] [])) B0 := fun t kt => st77 t (ls78.trans kt)
            have Eq78 := Vq78.1
            exact ⟨_, _, X78.more (by decide) (by decide), N78, Zq78, Vq78.to (fun q => by
                (try dsimp only [own_st])
                (repeat' split) <;> first | rfl | omega) (fun q => by
                (try dsimp only [own_st])
                (repeat' split) <;> first | rfl | omega) (fun q => by
                (try dsimp only [own_st])
                (repeat' split) <;> first | rfl | omega), st79⟩
      have Ej := Vj.1
      have st80 : own_Go p e below (T49.setTop (mkF m 265 #[iv xf, iv xg, .val (.long xt), .second, .val (.long xq), .second, .val (.long xc), .second, iv bg, iv od, iv v_x, iv v_y, iv v_b1, iv v_b2, iv v_f1, iv v_f2, iv v_c, iv v_fc, rv b1, rv b2, iv (xf + (1 : Int32)), iv (xf + (2 : Int32)), .unset, .unset, .unset, .unset, .unset, .unset] [(.int (xf + (1 : Int32))), (.ref b2)])) B0 := fun t kt => st49 t (by
        show own_At p e below T49 m 261 #[iv xf, iv xg, .val (.long xt), .second, .val (.long xq), .second, .val (.long xc), .second, iv bg, iv od, iv v_x, iv v_y, iv v_b1, iv v_b2, iv v_f1, iv v_f2, iv v_c, iv v_fc, rv b1, rv b2, iv (xf + (1 : Int32)), iv (xf + (2 : Int32)), .unset, .unset, .unset, .unset, .unset, .unset] [] _
        refine XS.aload X49.here hx rfl (hb hby at_261) rfl rfl ?_
        show own_At p e below T49 m 263 #[iv xf, iv xg, .val (.long xt), .second, .val (.long xq), .second, .val (.long xc), .second, iv bg, iv od, iv v_x, iv v_y, iv v_b1, iv v_b2, iv v_f1, iv v_f2, iv v_c, iv v_fc, rv b1, rv b2, iv (xf + (1 : Int32)), iv (xf + (2 : Int32)), .unset, .unset, .unset, .unset, .unset, .unset] [(.ref b2)] _
        refine XS.iload X49.here hx rfl (hb hby at_263) rfl ?_
        show own_At p e below T49 m 265 #[iv xf, iv xg, .val (.long xt), .second, .val (.long xq), .second, .val (.long xc), .second, iv bg, iv od, iv v_x, iv v_y, iv v_b1, iv v_b2, iv v_f1, iv v_f2, iv v_c, iv v_fc, rv b1, rv b2, iv (xf + (1 : Int32)), iv (xf + (2 : Int32)), .unset, .unset, .unset, .unset, .unset, .unset] [(.int (xf + (1 : Int32))), (.ref b2)] _
        exact kt)
      obtain ⟨cq81, kq81, q81a, q81b, q81c⟩ := isOf hZ rfl Ej
      obtain ⟨_, _, ⟨T81, L81, k81, n81⟩, -, X81, ⟨Lc81, hQ81, l81, y81, z81⟩, ls81⟩ := X49.virtualBack hx (y := (⟨"com/example/ranked_text_search/rankedtextsearch/MemoryTermVectors", "vector", "(I)Lcom/example/ranked_text_search/rankedtextsearch/TermVectors$Vector;"⟩ : MethodName)) (z := (⟨"com/example/ranked_text_search/rankedtextsearch/MemoryTermVectors", "vector", "(I)Lcom/example/ranked_text_search/rankedtextsearch/TermVectors$Vector;"⟩ : MethodName)) hown (mvT hZ (hw _ (List.mem_of_getElem? (i := 51) rfl))) (mvT hZ (hw _ (List.mem_of_getElem? (i := 52) rfl))) (notFace_of_selects (args := #[]) (mvT hZ (hw _ (List.mem_of_getElem? (i := 54) rfl)))) (mvT hZ (hw _ (List.mem_of_getElem? (i := 54) rfl))) (mvT hZ (hw _ (List.mem_of_getElem? (i := 53) rfl))) (by decide) (backOf (W := 0) (rm_vec_1_3 l Z a0 hw [] b2 ((xf + (1 : Int32))) xf ((fun q => if q = 1 then 3 else if q = 2 then 4 else own_st 1 3 4 q)) ((fun q => if q = 1 then v_b1 else if q = 2 then v_b2 else if q = 3 then v_c else 0)) ((fun q => if q = 1 then v_f1 else if q = 2 then v_f2 else if q = 3 then v_fc else 0)) T49.heap n0 Z49 Vj d1) hZ (hw _ (List.mem_of_getElem? (i := 55) rfl)) (hw _ (List.mem_of_getElem? (i := 10) rfl)) (by decide) (by decide)) q81a q81c (g := (mkF m 265 #[iv xf, iv xg, .val (.long xt), .second, .val (.long xq), .second, .val (.long xc), .second, iv bg, iv od, iv v_x, iv v_y, iv v_b1, iv v_b2, iv v_f1, iv v_f2, iv v_c, iv v_fc, rv b1, rv b2, iv (xf + (1 : Int32)), iv (xf + (2 : Int32)), .unset, .unset, .unset, .unset, .unset, .unset] [(.int (xf + (1 : Int32))), (.ref b2)])) rfl (by rw [hml]; rfl) (Steps.refl _) (argsL := [(.int (xf + (1 : Int32)))]) (rest := []) (lenOf own_pd8 rfl) rfl (by show 2 * 0 + _ ≤ _; exact Nat.le_of_eq rfl) (hb hby at_265) (fun _ _ => ⟨rfl, rfl, (by decide : 8 + 3 ≤ _), (by decide : 39 + 6 ≤ _)⟩)
      dsimp only [Pt.U, Pt.locs, Pt.cells, Pt.slots] at X81 l81 y81 z81 ls81 hQ81
      subst l81 y81 z81
      obtain ⟨vq81, r1q81, r2q81, rfl, Nq81, Kq81, Ev81, Fr1q81, Fr2q81, Ar1q81, Ar2q81⟩ := hQ81
      have N81 := Fr.app N49 Nq81
      have f82 := Ej.keep Kq81
      have z83 := Nat.le_trans Z49 Kq81.1
      have st84 : own_Go p e below (T81.setTop (mkF m 268 #[iv xf, iv xg, .val (.long xt), .second, .val (.long xq), .second, .val (.long xc), .second, iv bg, iv od, iv v_x, iv v_y, iv v_b1, iv v_b2, iv v_f1, iv v_f2, iv v_c, iv v_fc, rv b1, rv b2, iv (xf + (1 : Int32)), iv (xf + (2 : Int32)), .unset, .unset, .unset, .unset, .unset, .unset] [(.ref vq81)])) B0 := fun t kt => st80 t (ls81.trans kt)
      have V85 := Vj.keep0 Kq81
      have st86 : own_Go p e below (T81.setTop (mkF m 274 #[iv xf, iv xg, .val (.long xt), .second, .val (.long xq), .second, .val (.long xc), .second, iv bg, iv od, iv v_x, iv v_y, iv v_b1, iv v_b2, iv v_f1, iv v_f2, iv v_c, iv v_fc, rv b1, rv b2, iv (xf + (1 : Int32)), iv (xf + (2 : Int32)), rv vq81, .unset, .unset, .unset, .unset, .unset] [(.int (xf + (2 : Int32))), (.ref b2)])) B0 := fun t kt => st84 t (by
        show own_At p e below T81 m 268 #[iv xf, iv xg, .val (.long xt), .second, .val (.long xq), .second, .val (.long xc), .second, iv bg, iv od, iv v_x, iv v_y, iv v_b1, iv v_b2, iv v_f1, iv v_f2, iv v_c, iv v_fc, rv b1, rv b2, iv (xf + (1 : Int32)), iv (xf + (2 : Int32)), .unset, .unset, .unset, .unset, .unset, .unset] [(.ref vq81)] _
        refine XS.astore X81.here hx rfl (hb hby at_268) rfl rfl (l' := #[iv xf, iv xg, .val (.long xt), .second, .val (.long xq), .second, .val (.long xc), .second, iv bg, iv od, iv v_x, iv v_y, iv v_b1, iv v_b2, iv v_f1, iv v_f2, iv v_c, iv v_fc, rv b1, rv b2, iv (xf + (1 : Int32)), iv (xf + (2 : Int32)), rv vq81, .unset, .unset, .unset, .unset, .unset]) rfl ?_
        show own_At p e below T81 m 270 #[iv xf, iv xg, .val (.long xt), .second, .val (.long xq), .second, .val (.long xc), .second, iv bg, iv od, iv v_x, iv v_y, iv v_b1, iv v_b2, iv v_f1, iv v_f2, iv v_c, iv v_fc, rv b1, rv b2, iv (xf + (1 : Int32)), iv (xf + (2 : Int32)), rv vq81, .unset, .unset, .unset, .unset, .unset] [] _
        refine XS.aload X81.here hx rfl (hb hby at_270) rfl rfl ?_
        show own_At p e below T81 m 272 #[iv xf, iv xg, .val (.long xt), .second, .val (.long xq), .second, .val (.long xc), .second, iv bg, iv od, iv v_x, iv v_y, iv v_b1, iv v_b2, iv v_f1, iv v_f2, iv v_c, iv v_fc, rv b1, rv b2, iv (xf + (1 : Int32)), iv (xf + (2 : Int32)), rv vq81, .unset, .unset, .unset, .unset, .unset] [(.ref b2)] _
        refine XS.iload X81.here hx rfl (hb hby at_272) rfl ?_
        show own_At p e below T81 m 274 #[iv xf, iv xg, .val (.long xt), .second, .val (.long xq), .second, .val (.long xc), .second, iv bg, iv od, iv v_x, iv v_y, iv v_b1, iv v_b2, iv v_f1, iv v_f2, iv v_c, iv v_fc, rv b1, rv b2, iv (xf + (1 : Int32)), iv (xf + (2 : Int32)), rv vq81, .unset, .unset, .unset, .unset, .unset] [(.int (xf + (2 : Int32))), (.ref b2)] _
        exact kt)
      obtain ⟨cq87, kq87, q87a, q87b, q87c⟩ := isOf hZ rfl f82
      obtain ⟨_, _, ⟨T87, L87, k87, n87⟩, -, X87, ⟨Lc87, hQ87, l87, y87, z87⟩, ls87⟩ := X81.virtualBack hx (y := (⟨"com/example/ranked_text_search/rankedtextsearch/MemoryTermVectors", "vector", "(I)Lcom/example/ranked_text_search/rankedtextsearch/TermVectors$Vector;"⟩ : MethodName)) (z := (⟨"com/example/ranked_text_search/rankedtextsearch/MemoryTermVectors", "vector", "(I)Lcom/example/ranked_text_search/rankedtextsearch/TermVectors$Vector;"⟩ : MethodName)) hown (mvT hZ (hw _ (List.mem_of_getElem? (i := 51) rfl))) (mvT hZ (hw _ (List.mem_of_getElem? (i := 52) rfl))) (notFace_of_selects (args := #[]) (mvT hZ (hw _ (List.mem_of_getElem? (i := 54) rfl)))) (mvT hZ (hw _ (List.mem_of_getElem? (i := 54) rfl))) (mvT hZ (hw _ (List.mem_of_getElem? (i := 53) rfl))) (by decide) (backOf (W := 0) (rm_vec_3_4 l Z a0 hw [] b2 ((xf + (2 : Int32))) xf ((fun q => if q = 1 then 3 else if q = 2 then 4 else own_st 1 3 4 q)) ((fun q => if q = 1 then v_b1 else if q = 2 then v_b2 else if q = 3 then v_c else 0)) ((fun q => if q = 1 then v_f1 else if q = 2 then v_f2 else if q = 3 then v_fc else 0)) T81.heap n0 z83 V85 d2) hZ (hw _ (List.mem_of_getElem? (i := 55) rfl)) (hw _ (List.mem_of_getElem? (i := 10) rfl)) (by decide) (by decide)) q87a q87c (g := (mkF m 274 #[iv xf, iv xg, .val (.long xt), .second, .val (.long xq), .second, .val (.long xc), .second, iv bg, iv od, iv v_x, iv v_y, iv v_b1, iv v_b2, iv v_f1, iv v_f2, iv v_c, iv v_fc, rv b1, rv b2, iv (xf + (1 : Int32)), iv (xf + (2 : Int32)), rv vq81, .unset, .unset, .unset, .unset, .unset] [(.int (xf + (2 : Int32))), (.ref b2)])) rfl (by rw [hml]; rfl) (Steps.refl _) (argsL := [(.int (xf + (2 : Int32)))]) (rest := []) (lenOf own_pd8 rfl) rfl (by show 2 * 0 + _ ≤ _; exact Nat.le_of_eq rfl) (hb hby at_274) (fun _ _ => ⟨rfl, rfl, (by decide : 11 + 3 ≤ _), (by decide : 45 + 4 ≤ _)⟩)
      dsimp only [Pt.U, Pt.locs, Pt.cells, Pt.slots] at X87 l87 y87 z87 ls87 hQ87
      subst l87 y87 z87
      obtain ⟨vq87, r1q87, r2q87, rfl, Nq87, Kq87, Ev87, Fr1q87, Fr2q87, Ar1q87, Ar2q87⟩ := hQ87
      have N87 := Fr.app N81 Nq87
      have f88 := f82.keep Kq87
      have f89 := Ev81.keep Kq87
      have f90 := Fr1q81.keep Kq87 nin0
      have f91 := Ar1q81.keep Kq87 nin0
      have f92 := Fr2q81.keep Kq87 nin0
      have f93 := Ar2q81.keep Kq87 nin0
      have z94 := Nat.le_trans z83 Kq87.1
      have st95 : own_Go p e below (T87.setTop (mkF m 277 #[iv xf, iv xg, .val (.long xt), .second, .val (.long xq), .second, .val (.long xc), .second, iv bg, iv od, iv v_x, iv v_y, iv v_b1, iv v_b2, iv v_f1, iv v_f2, iv v_c, iv v_fc, rv b1, rv b2, iv (xf + (1 : Int32)), iv (xf + (2 : Int32)), rv vq81, .unset, .unset, .unset, .unset, .unset] [(.ref vq87)])) B0 := fun t kt => st86 t (ls87.trans kt)
      have V96 := V85.keep0 Kq87
      have st97 : own_Go p e below (T87.setTop (mkF m 281 #[iv xf, iv xg, .val (.long xt), .second, .val (.long xq), .second, .val (.long xc), .second, iv bg, iv od, iv v_x, iv v_y, iv v_b1, iv v_b2, iv v_f1, iv v_f2, iv v_c, iv v_fc, rv b1, rv b2, iv (xf + (1 : Int32)), iv (xf + (2 : Int32)), rv vq81, rv vq87, .unset, .unset, .unset, .unset] [(.ref vq81)])) B0 := fun t kt => st95 t (by
        show own_At p e below T87 m 277 #[iv xf, iv xg, .val (.long xt), .second, .val (.long xq), .second, .val (.long xc), .second, iv bg, iv od, iv v_x, iv v_y, iv v_b1, iv v_b2, iv v_f1, iv v_f2, iv v_c, iv v_fc, rv b1, rv b2, iv (xf + (1 : Int32)), iv (xf + (2 : Int32)), rv vq81, .unset, .unset, .unset, .unset, .unset] [(.ref vq87)] _
        refine XS.astore X87.here hx rfl (hb hby at_277) rfl rfl (l' := #[iv xf, iv xg, .val (.long xt), .second, .val (.long xq), .second, .val (.long xc), .second, iv bg, iv od, iv v_x, iv v_y, iv v_b1, iv v_b2, iv v_f1, iv v_f2, iv v_c, iv v_fc, rv b1, rv b2, iv (xf + (1 : Int32)), iv (xf + (2 : Int32)), rv vq81, rv vq87, .unset, .unset, .unset, .unset]) rfl ?_
        show own_At p e below T87 m 279 #[iv xf, iv xg, .val (.long xt), .second, .val (.long xq), .second, .val (.long xc), .second, iv bg, iv od, iv v_x, iv v_y, iv v_b1, iv v_b2, iv v_f1, iv v_f2, iv v_c, iv v_fc, rv b1, rv b2, iv (xf + (1 : Int32)), iv (xf + (2 : Int32)), rv vq81, rv vq87, .unset, .unset, .unset, .unset] [] _
        refine XS.aload X87.here hx rfl (hb hby at_279) rfl rfl ?_
        show own_At p e below T87 m 281 #[iv xf, iv xg, .val (.long xt), .second, .val (.long xq), .second, .val (.long xc), .second, iv bg, iv od, iv v_x, iv v_y, iv v_b1, iv v_b2, iv v_f1, iv v_f2, iv v_c, iv v_fc, rv b1, rv b2, iv (xf + (1 : Int32)), iv (xf + (2 : Int32)), rv vq81, rv vq87, .unset, .unset, .unset, .unset] [(.ref vq81)] _
        exact kt)
      obtain ⟨cq98, kq98, q98a, q98b, q98c⟩ := isOf hZ rfl f89
      obtain ⟨_, _, ⟨T98, L98, k98, n98⟩, -, X98, ⟨Lc98, hQ98, l98, y98, z98⟩, ls98⟩ := X87.virtualBack hx (y := (⟨"com/example/ranked_text_search/rankedtextsearch/TermVectors$Vector", "termNumbers", "()[I"⟩ : MethodName)) (z := (⟨"com/example/ranked_text_search/rankedtextsearch/TermVectors$Vector", "termNumbers", "()[I"⟩ : MethodName)) hown (mvT hZ (hw _ (List.mem_of_getElem? (i := 76) rfl))) (mvT hZ (hw _ (List.mem_of_getElem? (i := 77) rfl))) (notFace_of_selects (args := #[]) (mvT hZ (hw _ (List.mem_of_getElem? (i := 79) rfl)))) (mvT hZ (hw _ (List.mem_of_getElem? (i := 79) rfl))) (mvT hZ (hw _ (List.mem_of_getElem? (i := 78) rfl))) (by decide) (backOf (W := 0) (rm_acc_termNumbers l Z a0 hw [] vq81 r1q81 T87.heap n0 z94 f90) hZ (hw _ (List.mem_of_getElem? (i := 80) rfl)) (hw _ (List.mem_of_getElem? (i := 58) rfl)) (by decide) (by decide)) q98a q98c (g := (mkF m 281 #[iv xf, iv xg, .val (.long xt), .second, .val (.long xq), .second, .val (.long xc), .second, iv bg, iv od, iv v_x, iv v_y, iv v_b1, iv v_b2, iv v_f1, iv v_f2, iv v_c, iv v_fc, rv b1, rv b2, iv (xf + (1 : Int32)), iv (xf + (2 : Int32)), rv vq81, rv vq87, .unset, .unset, .unset, .unset] [(.ref vq81)])) rfl (by rw [hml]; rfl) (Steps.refl _) (argsL := []) (rest := []) (lenOf own_pd9 rfl) rfl (by show 2 * 0 + _ ≤ _; exact Nat.le_of_eq rfl) (hb hby at_281) (fun _ _ => ⟨rfl, rfl, (by decide : 14 + 0 ≤ _), (by decide : 49 + 0 ≤ _)⟩)
      dsimp only [Pt.U, Pt.locs, Pt.cells, Pt.slots] at X98 l98 y98 z98 ls98 hQ98
      subst l98 y98 z98
      obtain ⟨rfl, Nq98, eq98⟩ := hQ98
      have N98 := Fr.app N87 Nq98
      have st99 : own_Go p e below (T98.setTop (mkF m 284 #[iv xf, iv xg, .val (.long xt), .second, .val (.long xq), .second, .val (.long xc), .second, iv bg, iv od, iv v_x, iv v_y, iv v_b1, iv v_b2, iv v_f1, iv v_f2, iv v_c, iv v_fc, rv b1, rv b2, iv (xf + (1 : Int32)), iv (xf + (2 : Int32)), rv vq81, rv vq87, .unset, .unset, .unset, .unset] [(.ref r1q81)])) B0 := fun t kt => st97 t (ls98.trans kt)
      have st100 : own_Go p e below (T98.setTop (mkF m 288 #[iv xf, iv xg, .val (.long xt), .second, .val (.long xq), .second, .val (.long xc), .second, iv bg, iv od, iv v_x, iv v_y, iv v_b1, iv v_b2, iv v_f1, iv v_f2, iv v_c, iv v_fc, rv b1, rv b2, iv (xf + (1 : Int32)), iv (xf + (2 : Int32)), rv vq81, rv vq87, rv r1q81, .unset, .unset, .unset] [(.ref vq81)])) B0 := fun t kt => st99 t (by
        show own_At p e below T98 m 284 #[iv xf, iv xg, .val (.long xt), .second, .val (.long xq), .second, .val (.long xc), .second, iv bg, iv od, iv v_x, iv v_y, iv v_b1, iv v_b2, iv v_f1, iv v_f2, iv v_c, iv v_fc, rv b1, rv b2, iv (xf + (1 : Int32)), iv (xf + (2 : Int32)), rv vq81, rv vq87, .unset, .unset, .unset, .unset] [(.ref r1q81)] _
        refine XS.astore X98.here hx rfl (hb hby at_284) rfl rfl (l' := #[iv xf, iv xg, .val (.long xt), .second, .val (.long xq), .second, .val (.long xc), .second, iv bg, iv od, iv v_x, iv v_y, iv v_b1, iv v_b2, iv v_f1, iv v_f2, iv v_c, iv v_fc, rv b1, rv b2, iv (xf + (1 : Int32)), iv (xf + (2 : Int32)), rv vq81, rv vq87, rv r1q81, .unset, .unset, .unset]) rfl ?_
        show own_At p e below T98 m 286 #[iv xf, iv xg, .val (.long xt), .second, .val (.long xq), .second, .val (.long xc), .second, iv bg, iv od, iv v_x, iv v_y, iv v_b1, iv v_b2, iv v_f1, iv v_f2, iv v_c, iv v_fc, rv b1, rv b2, iv (xf + (1 : Int32)), iv (xf + (2 : Int32)), rv vq81, rv vq87, rv r1q81, .unset, .unset, .unset] [] _
        refine XS.aload X98.here hx rfl (hb hby at_286) rfl rfl ?_
        show own_At p e below T98 m 288 #[iv xf, iv xg, .val (.long xt), .second, .val (.long xq), .second, .val (.long xc), .second, iv bg, iv od, iv v_x, iv v_y, iv v_b1, iv v_b2, iv v_f1, iv v_f2, iv v_c, iv v_fc, rv b1, rv b2, iv (xf + (1 : Int32)), iv (xf + (2 : Int32)), rv vq81, rv vq87, rv r1q81, .unset, .unset, .unset] [(.ref vq81)] _
        exact kt)
      obtain ⟨cq101, kq101, q101a, q101b, q101c⟩ := isOf hZ eq98 f89
      obtain ⟨_, _, ⟨T101, L101, k101, n101⟩, -, X101, ⟨Lc101, hQ101, l101, y101, z101⟩, ls101⟩ := X98.virtualBack hx (y := (⟨"com/example/ranked_text_search/rankedtextsearch/TermVectors$Vector", "frequencies", "()[I"⟩ : MethodName)) (z := (⟨"com/example/ranked_text_search/rankedtextsearch/TermVectors$Vector", "frequencies", "()[I"⟩ : MethodName)) hown (mvT hZ (hw _ (List.mem_of_getElem? (i := 81) rfl))) (mvT hZ (hw _ (List.mem_of_getElem? (i := 82) rfl))) (notFace_of_selects (args := #[]) (mvT hZ (hw _ (List.mem_of_getElem? (i := 84) rfl)))) (mvT hZ (hw _ (List.mem_of_getElem? (i := 84) rfl))) (mvT hZ (hw _ (List.mem_of_getElem? (i := 83) rfl))) (by decide) (backOf (W := 0) (rm_acc_frequencies l Z a0 hw [] vq81 r2q81 T87.heap n0 z94 f92) hZ (hw _ (List.mem_of_getElem? (i := 85) rfl)) (hw _ (List.mem_of_getElem? (i := 58) rfl)) (by decide) (by decide)) q101a q101c (g := (mkF m 288 #[iv xf, iv xg, .val (.long xt), .second, .val (.long xq), .second, .val (.long xc), .second, iv bg, iv od, iv v_x, iv v_y, iv v_b1, iv v_b2, iv v_f1, iv v_f2, iv v_c, iv v_fc, rv b1, rv b2, iv (xf + (1 : Int32)), iv (xf + (2 : Int32)), rv vq81, rv vq87, rv r1q81, .unset, .unset, .unset] [(.ref vq81)])) rfl (by rw [hml]; rfl) (Steps.refl _) (argsL := []) (rest := []) (lenOf own_pd9 rfl) rfl (by show 2 * 0 + _ ≤ _; exact Nat.le_of_eq rfl) (hb hby at_288) (fun _ _ => ⟨rfl, eq98, (by decide : 14 + 0 ≤ _), (by decide : 49 + 0 ≤ _)⟩)
      dsimp only [Pt.U, Pt.locs, Pt.cells, Pt.slots] at X101 l101 y101 z101 ls101 hQ101
      subst l101 y101 z101
      obtain ⟨rfl, Nq101, eq101⟩ := hQ101
      have N101 := Fr.app N98 Nq101
      have st102 : own_Go p e below (T101.setTop (mkF m 291 #[iv xf, iv xg, .val (.long xt), .second, .val (.long xq), .second, .val (.long xc), .second, iv bg, iv od, iv v_x, iv v_y, iv v_b1, iv v_b2, iv v_f1, iv v_f2, iv v_c, iv v_fc, rv b1, rv b2, iv (xf + (1 : Int32)), iv (xf + (2 : Int32)), rv vq81, rv vq87, rv r1q81, .unset, .unset, .unset] [(.ref r2q81)])) B0 := fun t kt => st100 t (ls101.trans kt)
      have st103 : own_Go p e below (T101.setTop (mkF m 295 #[iv xf, iv xg, .val (.long xt), .second, .val (.long xq), .second, .val (.long xc), .second, iv bg, iv od, iv v_x, iv v_y, iv v_b1, iv v_b2, iv v_f1, iv v_f2, iv v_c, iv v_fc, rv b1, rv b2, iv (xf + (1 : Int32)), iv (xf + (2 : Int32)), rv vq81, rv vq87, rv r1q81, rv r2q81, .unset, .unset] [(.ref vq87)])) B0 := fun t kt => st102 t (by
        show own_At p e below T101 m 291 #[iv xf, iv xg, .val (.long xt), .second, .val (.long xq), .second, .val (.long xc), .second, iv bg, iv od, iv v_x, iv v_y, iv v_b1, iv v_b2, iv v_f1, iv v_f2, iv v_c, iv v_fc, rv b1, rv b2, iv (xf + (1 : Int32)), iv (xf + (2 : Int32)), rv vq81, rv vq87, rv r1q81, .unset, .unset, .unset] [(.ref r2q81)] _
        refine XS.astore X101.here hx rfl (hb hby at_291) rfl rfl (l' := #[iv xf, iv xg, .val (.long xt), .second, .val (.long xq), .second, .val (.long xc), .second, iv bg, iv od, iv v_x, iv v_y, iv v_b1, iv v_b2, iv v_f1, iv v_f2, iv v_c, iv v_fc, rv b1, rv b2, iv (xf + (1 : Int32)), iv (xf + (2 : Int32)), rv vq81, rv vq87, rv r1q81, rv r2q81, .unset, .unset]) rfl ?_
        show own_At p e below T101 m 293 #[iv xf, iv xg, .val (.long xt), .second, .val (.long xq), .second, .val (.long xc), .second, iv bg, iv od, iv v_x, iv v_y, iv v_b1, iv v_b2, iv v_f1, iv v_f2, iv v_c, iv v_fc, rv b1, rv b2, iv (xf + (1 : Int32)), iv (xf + (2 : Int32)), rv vq81, rv vq87, rv r1q81, rv r2q81, .unset, .unset] [] _
        refine XS.aload X101.here hx rfl (hb hby at_293) rfl rfl ?_
        show own_At p e below T101 m 295 #[iv xf, iv xg, .val (.long xt), .second, .val (.long xq), .second, .val (.long xc), .second, iv bg, iv od, iv v_x, iv v_y, iv v_b1, iv v_b2, iv v_f1, iv v_f2, iv v_c, iv v_fc, rv b1, rv b2, iv (xf + (1 : Int32)), iv (xf + (2 : Int32)), rv vq81, rv vq87, rv r1q81, rv r2q81, .unset, .unset] [(.ref vq87)] _
        exact kt)
      obtain ⟨cq104, kq104, q104a, q104b, q104c⟩ := isOf hZ eq101 Ev87
      obtain ⟨_, _, ⟨T104, L104, k104, n104⟩, -, X104, ⟨Lc104, hQ104, l104, y104, z104⟩, ls104⟩ := X101.virtualBack hx (y := (⟨"com/example/ranked_text_search/rankedtextsearch/TermVectors$Vector", "termNumbers", "()[I"⟩ : MethodName)) (z := (⟨"com/example/ranked_text_search/rankedtextsearch/TermVectors$Vector", "termNumbers", "()[I"⟩ : MethodName)) hown (mvT hZ (hw _ (List.mem_of_getElem? (i := 76) rfl))) (mvT hZ (hw _ (List.mem_of_getElem? (i := 77) rfl))) (notFace_of_selects (args := #[]) (mvT hZ (hw _ (List.mem_of_getElem? (i := 79) rfl)))) (mvT hZ (hw _ (List.mem_of_getElem? (i := 79) rfl))) (mvT hZ (hw _ (List.mem_of_getElem? (i := 78) rfl))) (by decide) (backOf (W := 0) (rm_acc_termNumbers l Z a0 hw [] vq87 r1q87 T87.heap n0 z94 Fr1q87) hZ (hw _ (List.mem_of_getElem? (i := 80) rfl)) (hw _ (List.mem_of_getElem? (i := 58) rfl)) (by decide) (by decide)) q104a q104c (g := (mkF m 295 #[iv xf, iv xg, .val (.long xt), .second, .val (.long xq), .second, .val (.long xc), .second, iv bg, iv od, iv v_x, iv v_y, iv v_b1, iv v_b2, iv v_f1, iv v_f2, iv v_c, iv v_fc, rv b1, rv b2, iv (xf + (1 : Int32)), iv (xf + (2 : Int32)), rv vq81, rv vq87, rv r1q81, rv r2q81, .unset, .unset] [(.ref vq87)])) rfl (by rw [hml]; rfl) (Steps.refl _) (argsL := []) (rest := []) (lenOf own_pd9 rfl) rfl (by show 2 * 0 + _ ≤ _; exact Nat.le_of_eq rfl) (hb hby at_295) (fun _ _ => ⟨rfl, eq101, (by decide : 14 + 0 ≤ _), (by decide : 49 + 0 ≤ _)⟩)
      dsimp only [Pt.U, Pt.locs, Pt.cells, Pt.slots] at X104 l104 y104 z104 ls104 hQ104
      subst l104 y104 z104
      obtain ⟨rfl, Nq104, eq104⟩ := hQ104
      have N104 := Fr.app N101 Nq104
      have st105 : own_Go p e below (T104.setTop (mkF m 298 #[iv xf, iv xg, .val (.long xt), .second, .val (.long xq), .second, .val (.long xc), .second, iv bg, iv od, iv v_x, iv v_y, iv v_b1, iv v_b2, iv v_f1, iv v_f2, iv v_c, iv v_fc, rv b1, rv b2, iv (xf + (1 : Int32)), iv (xf + (2 : Int32)), rv vq81, rv vq87, rv r1q81, rv r2q81, .unset, .unset] [(.ref r1q87)])) B0 := fun t kt => st103 t (ls104.trans kt)
      have st106 : own_Go p e below (T104.setTop (mkF m 302 #[iv xf, iv xg, .val (.long xt), .second, .val (.long xq), .second, .val (.long xc), .second, iv bg, iv od, iv v_x, iv v_y, iv v_b1, iv v_b2, iv v_f1, iv v_f2, iv v_c, iv v_fc, rv b1, rv b2, iv (xf + (1 : Int32)), iv (xf + (2 : Int32)), rv vq81, rv vq87, rv r1q81, rv r2q81, rv r1q87, .unset] [(.ref vq87)])) B0 := fun t kt => st105 t (by
        show own_At p e below T104 m 298 #[iv xf, iv xg, .val (.long xt), .second, .val (.long xq), .second, .val (.long xc), .second, iv bg, iv od, iv v_x, iv v_y, iv v_b1, iv v_b2, iv v_f1, iv v_f2, iv v_c, iv v_fc, rv b1, rv b2, iv (xf + (1 : Int32)), iv (xf + (2 : Int32)), rv vq81, rv vq87, rv r1q81, rv r2q81, .unset, .unset] [(.ref r1q87)] _
        refine XS.astore X104.here hx rfl (hb hby at_298) rfl rfl (l' := #[iv xf, iv xg, .val (.long xt), .second, .val (.long xq), .second, .val (.long xc), .second, iv bg, iv od, iv v_x, iv v_y, iv v_b1, iv v_b2, iv v_f1, iv v_f2, iv v_c, iv v_fc, rv b1, rv b2, iv (xf + (1 : Int32)), iv (xf + (2 : Int32)), rv vq81, rv vq87, rv r1q81, rv r2q81, rv r1q87, .unset]) rfl ?_
        show own_At p e below T104 m 300 #[iv xf, iv xg, .val (.long xt), .second, .val (.long xq), .second, .val (.long xc), .second, iv bg, iv od, iv v_x, iv v_y, iv v_b1, iv v_b2, iv v_f1, iv v_f2, iv v_c, iv v_fc, rv b1, rv b2, iv (xf + (1 : Int32)), iv (xf + (2 : Int32)), rv vq81, rv vq87, rv r1q81, rv r2q81, rv r1q87, .unset] [] _
        refine XS.aload X104.here hx rfl (hb hby at_300) rfl rfl ?_
        show own_At p e below T104 m 302 #[iv xf, iv xg, .val (.long xt), .second, .val (.long xq), .second, .val (.long xc), .second, iv bg, iv od, iv v_x, iv v_y, iv v_b1, iv v_b2, iv v_f1, iv v_f2, iv v_c, iv v_fc, rv b1, rv b2, iv (xf + (1 : Int32)), iv (xf + (2 : Int32)), rv vq81, rv vq87, rv r1q81, rv r2q81, rv r1q87, .unset] [(.ref vq87)] _
        exact kt)
      obtain ⟨cq107, kq107, q107a, q107b, q107c⟩ := isOf hZ eq104 Ev87
      obtain ⟨_, _, ⟨T107, L107, k107, n107⟩, -, X107, ⟨Lc107, hQ107, l107, y107, z107⟩, ls107⟩ := X104.virtualBack hx (y := (⟨"com/example/ranked_text_search/rankedtextsearch/TermVectors$Vector", "frequencies", "()[I"⟩ : MethodName)) (z := (⟨"com/example/ranked_text_search/rankedtextsearch/TermVectors$Vector", "frequencies", "()[I"⟩ : MethodName)) hown (mvT hZ (hw _ (List.mem_of_getElem? (i := 81) rfl))) (mvT hZ (hw _ (List.mem_of_getElem? (i := 82) rfl))) (notFace_of_selects (args := #[]) (mvT hZ (hw _ (List.mem_of_getElem? (i := 84) rfl)))) (mvT hZ (hw _ (List.mem_of_getElem? (i := 84) rfl))) (mvT hZ (hw _ (List.mem_of_getElem? (i := 83) rfl))) (by decide) (backOf (W := 0) (rm_acc_frequencies l Z a0 hw [] vq87 r2q87 T87.heap n0 z94 Fr2q87) hZ (hw _ (List.mem_of_getElem? (i := 85) rfl)) (hw _ (List.mem_of_getElem? (i := 58) rfl)) (by decide) (by decide)) q107a q107c (g := (mkF m 302 #[iv xf, iv xg, .val (.long xt), .second, .val (.long xq), .second, .val (.long xc), .second, iv bg, iv od, iv v_x, iv v_y, iv v_b1, iv v_b2, iv v_f1, iv v_f2, iv v_c, iv v_fc, rv b1, rv b2, iv (xf + (1 : Int32)), iv (xf + (2 : Int32)), rv vq81, rv vq87, rv r1q81, rv r2q81, rv r1q87, .unset] [(.ref vq87)])) rfl (by rw [hml]; rfl) (Steps.refl _) (argsL := []) (rest := []) (lenOf own_pd9 rfl) rfl (by show 2 * 0 + _ ≤ _; exact Nat.le_of_eq rfl) (hb hby at_302) (fun _ _ => ⟨rfl, eq104, (by decide : 14 + 0 ≤ _), (by decide : 49 + 0 ≤ _)⟩)
      dsimp only [Pt.U, Pt.locs, Pt.cells, Pt.slots] at X107 l107 y107 z107 ls107 hQ107
      subst l107 y107 z107
      obtain ⟨rfl, Nq107, eq107⟩ := hQ107
      have N107 := Fr.app N104 Nq107
      have st108 : own_Go p e below (T107.setTop (mkF m 305 #[iv xf, iv xg, .val (.long xt), .second, .val (.long xq), .second, .val (.long xc), .second, iv bg, iv od, iv v_x, iv v_y, iv v_b1, iv v_b2, iv v_f1, iv v_f2, iv v_c, iv v_fc, rv b1, rv b2, iv (xf + (1 : Int32)), iv (xf + (2 : Int32)), rv vq81, rv vq87, rv r1q81, rv r2q81, rv r1q87, .unset] [(.ref r2q87)])) B0 := fun t kt => st106 t (ls107.trans kt)
      have st109 : own_Go p e below (T107.setTop (mkF m 309 #[iv xf, iv xg, .val (.long xt), .second, .val (.long xq), .second, .val (.long xc), .second, iv bg, iv od, iv v_x, iv v_y, iv v_b1, iv v_b2, iv v_f1, iv v_f2, iv v_c, iv v_fc, rv b1, rv b2, iv (xf + (1 : Int32)), iv (xf + (2 : Int32)), rv vq81, rv vq87, rv r1q81, rv r2q81, rv r1q87, rv r2q87] [(.ref r1q81)])) B0 := fun t kt => st108 t (by
        show own_At p e below T107 m 305 #[iv xf, iv xg, .val (.long xt), .second, .val (.long xq), .second, .val (.long xc), .second, iv bg, iv od, iv v_x, iv v_y, iv v_b1, iv v_b2, iv v_f1, iv v_f2, iv v_c, iv v_fc, rv b1, rv b2, iv (xf + (1 : Int32)), iv (xf + (2 : Int32)), rv vq81, rv vq87, rv r1q81, rv r2q81, rv r1q87, .unset] [(.ref r2q87)] _
        refine XS.astore X107.here hx rfl (hb hby at_305) rfl rfl (l' := #[iv xf, iv xg, .val (.long xt), .second, .val (.long xq), .second, .val (.long xc), .second, iv bg, iv od, iv v_x, iv v_y, iv v_b1, iv v_b2, iv v_f1, iv v_f2, iv v_c, iv v_fc, rv b1, rv b2, iv (xf + (1 : Int32)), iv (xf + (2 : Int32)), rv vq81, rv vq87, rv r1q81, rv r2q81, rv r1q87, rv r2q87]) rfl ?_
        show own_At p e below T107 m 307 #[iv xf, iv xg, .val (.long xt), .second, .val (.long xq), .second, .val (.long xc), .second, iv bg, iv od, iv v_x, iv v_y, iv v_b1, iv v_b2, iv v_f1, iv v_f2, iv v_c, iv v_fc, rv b1, rv b2, iv (xf + (1 : Int32)), iv (xf + (2 : Int32)), rv vq81, rv vq87, rv r1q81, rv r2q81, rv r1q87, rv r2q87] [] _
        refine XS.aload X107.here hx rfl (hb hby at_307) rfl rfl ?_
        show own_At p e below T107 m 309 #[iv xf, iv xg, .val (.long xt), .second, .val (.long xq), .second, .val (.long xc), .second, iv bg, iv od, iv v_x, iv v_y, iv v_b1, iv v_b2, iv v_f1, iv v_f2, iv v_c, iv v_fc, rv b1, rv b2, iv (xf + (1 : Int32)), iv (xf + (2 : Int32)), rv vq81, rv vq87, rv r1q81, rv r2q81, rv r1q87, rv r2q87] [(.ref r1q81)] _
        exact kt)
      have ls110 := own_alen X107 hx hZ eq107 f91 (g := (mkF m 309 #[iv xf, iv xg, .val (.long xt), .second, .val (.long xq), .second, .val (.long xc), .second, iv bg, iv od, iv v_x, iv v_y, iv v_b1, iv v_b2, iv v_f1, iv v_f2, iv v_c, iv v_fc, rv b1, rv b2, iv (xf + (1 : Int32)), iv (xf + (2 : Int32)), rv vq81, rv vq87, rv r1q81, rv r2q81, rv r1q87, rv r2q87] [(.ref r1q81)])) rfl rfl (hb hby at_309)
      have st111 : own_Go p e below (T107.setTop (mkF m 310 #[iv xf, iv xg, .val (.long xt), .second, .val (.long xq), .second, .val (.long xc), .second, iv bg, iv od, iv v_x, iv v_y, iv v_b1, iv v_b2, iv v_f1, iv v_f2, iv v_c, iv v_fc, rv b1, rv b2, iv (xf + (1 : Int32)), iv (xf + (2 : Int32)), rv vq81, rv vq87, rv r1q81, rv r2q81, rv r1q87, rv r2q87] [(.int (2 : Int32))])) B0 := fun t kt => st109 t (ls110 t kt)
      have hc112 : (2 : Int32) = (2 : Int32) := rfl
      have st113 : own_Go p e below (T107.setTop (mkF m 316 #[iv xf, iv xg, .val (.long xt), .second, .val (.long xq), .second, .val (.long xc), .second, iv bg, iv od, iv v_x, iv v_y, iv v_b1, iv v_b2, iv v_f1, iv v_f2, iv v_c, iv v_fc, rv b1, rv b2, iv (xf + (1 : Int32)), iv (xf + (2 : Int32)), rv vq81, rv vq87, rv r1q81, rv r2q81, rv r1q87, rv r2q87] [(.ref r2q81)])) B0 := fun t kt => st111 t (by
        show own_At p e below T107 m 310 #[iv xf, iv xg, .val (.long xt), .second, .val (.long xq), .second, .val (.long xc), .second, iv bg, iv od, iv v_x, iv v_y, iv v_b1, iv v_b2, iv v_f1, iv v_f2, iv v_c, iv v_fc, rv b1, rv b2, iv (xf + (1 : Int32)), iv (xf + (2 : Int32)), rv vq81, rv vq87, rv r1q81, rv r2q81, rv r1q87, rv r2q87] [(.int (2 : Int32))] _
        refine XS.iconst X107.here hx rfl (hb hby at_310) ?_
        show own_At p e below T107 m 311 #[iv xf, iv xg, .val (.long xt), .second, .val (.long xq), .second, .val (.long xc), .second, iv bg, iv od, iv v_x, iv v_y, iv v_b1, iv v_b2, iv v_f1, iv v_f2, iv v_c, iv v_fc, rv b1, rv b2, iv (xf + (1 : Int32)), iv (xf + (2 : Int32)), rv vq81, rv vq87, rv r1q81, rv r2q81, rv r1q87, rv r2q87] [(.int (2 : Int32)), (.int (2 : Int32))] _
        refine XS.icmpNo X107.here hx rfl (hb hby at_311) rfl (teq hc112).2 ?_
        show own_At p e below T107 m 314 #[iv xf, iv xg, .val (.long xt), .second, .val (.long xq), .second, .val (.long xc), .second, iv bg, iv od, iv v_x, iv v_y, iv v_b1, iv v_b2, iv v_f1, iv v_f2, iv v_c, iv v_fc, rv b1, rv b2, iv (xf + (1 : Int32)), iv (xf + (2 : Int32)), rv vq81, rv vq87, rv r1q81, rv r2q81, rv r1q87, rv r2q87] [] _
        refine XS.aload X107.here hx rfl (hb hby at_314) rfl rfl ?_
        show own_At p e below T107 m 316 #[iv xf, iv xg, .val (.long xt), .second, .val (.long xq), .second, .val (.long xc), .second, iv bg, iv od, iv v_x, iv v_y, iv v_b1, iv v_b2, iv v_f1, iv v_f2, iv v_c, iv v_fc, rv b1, rv b2, iv (xf + (1 : Int32)), iv (xf + (2 : Int32)), rv vq81, rv vq87, rv r1q81, rv r2q81, rv r1q87, rv r2q87] [(.ref r2q81)] _
        exact kt)
      have ls114 := own_alen X107 hx hZ eq107 f93 (g := (mkF m 316 #[iv xf, iv xg, .val (.long xt), .second, .val (.long xq), .second, .val (.long xc), .second, iv bg, iv od, iv v_x, iv v_y, iv v_b1, iv v_b2, iv v_f1, iv v_f2, iv v_c, iv v_fc, rv b1, rv b2, iv (xf + (1 : Int32)), iv (xf + (2 : Int32)), rv vq81, rv vq87, rv r1q81, rv r2q81, rv r1q87, rv r2q87] [(.ref r2q81)])) rfl rfl (hb hby at_316)
      have st115 : own_Go p e below (T107.setTop (mkF m 317 #[iv xf, iv xg, .val (.long xt), .second, .val (.long xq), .second, .val (.long xc), .second, iv bg, iv od, iv v_x, iv v_y, iv v_b1, iv v_b2, iv v_f1, iv v_f2, iv v_c, iv v_fc, rv b1, rv b2, iv (xf + (1 : Int32)), iv (xf + (2 : Int32)), rv vq81, rv vq87, rv r1q81, rv r2q81, rv r1q87, rv r2q87] [(.int (2 : Int32))])) B0 := fun t kt => st113 t (ls114 t kt)
      have hc116 : (2 : Int32) = (2 : Int32) := rfl
      have st117 : own_Go p e below (T107.setTop (mkF m 323 #[iv xf, iv xg, .val (.long xt), .second, .val (.long xq), .second, .val (.long xc), .second, iv bg, iv od, iv v_x, iv v_y, iv v_b1, iv v_b2, iv v_f1, iv v_f2, iv v_c, iv v_fc, rv b1, rv b2, iv (xf + (1 : Int32)), iv (xf + (2 : Int32)), rv vq81, rv vq87, rv r1q81, rv r2q81, rv r1q87, rv r2q87] [(.ref r1q87)])) B0 := fun t kt => st115 t (by
        show own_At p e below T107 m 317 #[iv xf, iv xg, .val (.long xt), .second, .val (.long xq), .second, .val (.long xc), .second, iv bg, iv od, iv v_x, iv v_y, iv v_b1, iv v_b2, iv v_f1, iv v_f2, iv v_c, iv v_fc, rv b1, rv b2, iv (xf + (1 : Int32)), iv (xf + (2 : Int32)), rv vq81, rv vq87, rv r1q81, rv r2q81, rv r1q87, rv r2q87] [(.int (2 : Int32))] _
        refine XS.iconst X107.here hx rfl (hb hby at_317) ?_
        show own_At p e below T107 m 318 #[iv xf, iv xg, .val (.long xt), .second, .val (.long xq), .second, .val (.long xc), .second, iv bg, iv od, iv v_x, iv v_y, iv v_b1, iv v_b2, iv v_f1, iv v_f2, iv v_c, iv v_fc, rv b1, rv b2, iv (xf + (1 : Int32)), iv (xf + (2 : Int32)), rv vq81, rv vq87, rv r1q81, rv r2q81, rv r1q87, rv r2q87] [(.int (2 : Int32)), (.int (2 : Int32))] _
        refine XS.icmpNo X107.here hx rfl (hb hby at_318) rfl (teq hc116).2 ?_
        show own_At p e below T107 m 321 #[iv xf, iv xg, .val (.long xt), .second, .val (.long xq), .second, .val (.long xc), .second, iv bg, iv od, iv v_x, iv v_y, iv v_b1, iv v_b2, iv v_f1, iv v_f2, iv v_c, iv v_fc, rv b1, rv b2, iv (xf + (1 : Int32)), iv (xf + (2 : Int32)), rv vq81, rv vq87, rv r1q81, rv r2q81, rv r1q87, rv r2q87] [] _
        refine XS.aload X107.here hx rfl (hb hby at_321) rfl rfl ?_
        show own_At p e below T107 m 323 #[iv xf, iv xg, .val (.long xt), .second, .val (.long xq), .second, .val (.long xc), .second, iv bg, iv od, iv v_x, iv v_y, iv v_b1, iv v_b2, iv v_f1, iv v_f2, iv v_c, iv v_fc, rv b1, rv b2, iv (xf + (1 : Int32)), iv (xf + (2 : Int32)), rv vq81, rv vq87, rv r1q81, rv r2q81, rv r1q87, rv r2q87] [(.ref r1q87)] _
        exact kt)
      have ls118 := own_alen X107 hx hZ eq107 Ar1q87 (g := (mkF m 323 #[iv xf, iv xg, .val (.long xt), .second, .val (.long xq), .second, .val (.long xc), .second, iv bg, iv od, iv v_x, iv v_y, iv v_b1, iv v_b2, iv v_f1, iv v_f2, iv v_c, iv v_fc, rv b1, rv b2, iv (xf + (1 : Int32)), iv (xf + (2 : Int32)), rv vq81, rv vq87, rv r1q81, rv r2q81, rv r1q87, rv r2q87] [(.ref r1q87)])) rfl rfl (hb hby at_323)
      have st119 : own_Go p e below (T107.setTop (mkF m 324 #[iv xf, iv xg, .val (.long xt), .second, .val (.long xq), .second, .val (.long xc), .second, iv bg, iv od, iv v_x, iv v_y, iv v_b1, iv v_b2, iv v_f1, iv v_f2, iv v_c, iv v_fc, rv b1, rv b2, iv (xf + (1 : Int32)), iv (xf + (2 : Int32)), rv vq81, rv vq87, rv r1q81, rv r2q81, rv r1q87, rv r2q87] [(.int (1 : Int32))])) B0 := fun t kt => st117 t (ls118 t kt)
      have hc120 : (1 : Int32) = (1 : Int32) := rfl
      have st121 : own_Go p e below (T107.setTop (mkF m 330 #[iv xf, iv xg, .val (.long xt), .second, .val (.long xq), .second, .val (.long xc), .second, iv bg, iv od, iv v_x, iv v_y, iv v_b1, iv v_b2, iv v_f1, iv v_f2, iv v_c, iv v_fc, rv b1, rv b2, iv (xf + (1 : Int32)), iv (xf + (2 : Int32)), rv vq81, rv vq87, rv r1q81, rv r2q81, rv r1q87, rv r2q87] [(.ref r2q87)])) B0 := fun t kt => st119 t (by
        show own_At p e below T107 m 324 #[iv xf, iv xg, .val (.long xt), .second, .val (.long xq), .second, .val (.long xc), .second, iv bg, iv od, iv v_x, iv v_y, iv v_b1, iv v_b2, iv v_f1, iv v_f2, iv v_c, iv v_fc, rv b1, rv b2, iv (xf + (1 : Int32)), iv (xf + (2 : Int32)), rv vq81, rv vq87, rv r1q81, rv r2q81, rv r1q87, rv r2q87] [(.int (1 : Int32))] _
        refine XS.iconst X107.here hx rfl (hb hby at_324) ?_
        show own_At p e below T107 m 325 #[iv xf, iv xg, .val (.long xt), .second, .val (.long xq), .second, .val (.long xc), .second, iv bg, iv od, iv v_x, iv v_y, iv v_b1, iv v_b2, iv v_f1, iv v_f2, iv v_c, iv v_fc, rv b1, rv b2, iv (xf + (1 : Int32)), iv (xf + (2 : Int32)), rv vq81, rv vq87, rv r1q81, rv r2q81, rv r1q87, rv r2q87] [(.int (1 : Int32)), (.int (1 : Int32))] _
        refine XS.icmpNo X107.here hx rfl (hb hby at_325) rfl (teq hc120).2 ?_
        show own_At p e below T107 m 328 #[iv xf, iv xg, .val (.long xt), .second, .val (.long xq), .second, .val (.long xc), .second, iv bg, iv od, iv v_x, iv v_y, iv v_b1, iv v_b2, iv v_f1, iv v_f2, iv v_c, iv v_fc, rv b1, rv b2, iv (xf + (1 : Int32)), iv (xf + (2 : Int32)), rv vq81, rv vq87, rv r1q81, rv r2q81, rv r1q87, rv r2q87] [] _
        refine XS.aload X107.here hx rfl (hb hby at_328) rfl rfl ?_
        show own_At p e below T107 m 330 #[iv xf, iv xg, .val (.long xt), .second, .val (.long xq), .second, .val (.long xc), .second, iv bg, iv od, iv v_x, iv v_y, iv v_b1, iv v_b2, iv v_f1, iv v_f2, iv v_c, iv v_fc, rv b1, rv b2, iv (xf + (1 : Int32)), iv (xf + (2 : Int32)), rv vq81, rv vq87, rv r1q81, rv r2q81, rv r1q87, rv r2q87] [(.ref r2q87)] _
        exact kt)
      have ls122 := own_alen X107 hx hZ eq107 Ar2q87 (g := (mkF m 330 #[iv xf, iv xg, .val (.long xt), .second, .val (.long xq), .second, .val (.long xc), .second, iv bg, iv od, iv v_x, iv v_y, iv v_b1, iv v_b2, iv v_f1, iv v_f2, iv v_c, iv v_fc, rv b1, rv b2, iv (xf + (1 : Int32)), iv (xf + (2 : Int32)), rv vq81, rv vq87, rv r1q81, rv r2q81, rv r1q87, rv r2q87] [(.ref r2q87)])) rfl rfl (hb hby at_330)
      have st123 : own_Go p e below (T107.setTop (mkF m 331 #[iv xf, iv xg, .val (.long xt), .second, .val (.long xq), .second, .val (.long xc), .second, iv bg, iv od, iv v_x, iv v_y, iv v_b1, iv v_b2, iv v_f1, iv v_f2, iv v_c, iv v_fc, rv b1, rv b2, iv (xf + (1 : Int32)), iv (xf + (2 : Int32)), rv vq81, rv vq87, rv r1q81, rv r2q81, rv r1q87, rv r2q87] [(.int (1 : Int32))])) B0 := fun t kt => st121 t (ls122 t kt)
      have hc124 : (1 : Int32) = (1 : Int32) := rfl
      have st125 : own_Go p e below (T107.setTop (mkF m 338 #[iv xf, iv xg, .val (.long xt), .second, .val (.long xq), .second, .val (.long xc), .second, iv bg, iv od, iv v_x, iv v_y, iv v_b1, iv v_b2, iv v_f1, iv v_f2, iv v_c, iv v_fc, rv b1, rv b2, iv (xf + (1 : Int32)), iv (xf + (2 : Int32)), rv vq81, rv vq87, rv r1q81, rv r2q81, rv r1q87, rv r2q87] [(.int (0 : Int32)), (.ref r1q81)])) B0 := fun t kt => st123 t (by
        show own_At p e below T107 m 331 #[iv xf, iv xg, .val (.long xt), .second, .val (.long xq), .second, .val (.long xc), .second, iv bg, iv od, iv v_x, iv v_y, iv v_b1, iv v_b2, iv v_f1, iv v_f2, iv v_c, iv v_fc, rv b1, rv b2, iv (xf + (1 : Int32)), iv (xf + (2 : Int32)), rv vq81, rv vq87, rv r1q81, rv r2q81, rv r1q87, rv r2q87] [(.int (1 : Int32))] _
        refine XS.iconst X107.here hx rfl (hb hby at_331) ?_
        show own_At p e below T107 m 332 #[iv xf, iv xg, .val (.long xt), .second, .val (.long xq), .second, .val (.long xc), .second, iv bg, iv od, iv v_x, iv v_y, iv v_b1, iv v_b2, iv v_f1, iv v_f2, iv v_c, iv v_fc, rv b1, rv b2, iv (xf + (1 : Int32)), iv (xf + (2 : Int32)), rv vq81, rv vq87, rv r1q81, rv r2q81, rv r1q87, rv r2q87] [(.int (1 : Int32)), (.int (1 : Int32))] _
        refine XS.icmpNo X107.here hx rfl (hb hby at_332) rfl (teq hc124).2 ?_
        show own_At p e below T107 m 335 #[iv xf, iv xg, .val (.long xt), .second, .val (.long xq), .second, .val (.long xc), .second, iv bg, iv od, iv v_x, iv v_y, iv v_b1, iv v_b2, iv v_f1, iv v_f2, iv v_c, iv v_fc, rv b1, rv b2, iv (xf + (1 : Int32)), iv (xf + (2 : Int32)), rv vq81, rv vq87, rv r1q81, rv r2q81, rv r1q87, rv r2q87] [] _
        refine XS.aload X107.here hx rfl (hb hby at_335) rfl rfl ?_
        show own_At p e below T107 m 337 #[iv xf, iv xg, .val (.long xt), .second, .val (.long xq), .second, .val (.long xc), .second, iv bg, iv od, iv v_x, iv v_y, iv v_b1, iv v_b2, iv v_f1, iv v_f2, iv v_c, iv v_fc, rv b1, rv b2, iv (xf + (1 : Int32)), iv (xf + (2 : Int32)), rv vq81, rv vq87, rv r1q81, rv r2q81, rv r1q87, rv r2q87] [(.ref r1q81)] _
        refine XS.iconst X107.here hx rfl (hb hby at_337) ?_
        show own_At p e below T107 m 338 #[iv xf, iv xg, .val (.long xt), .second, .val (.long xq), .second, .val (.long xc), .second, iv bg, iv od, iv v_x, iv v_y, iv v_b1, iv v_b2, iv v_f1, iv v_f2, iv v_c, iv v_fc, rv b1, rv b2, iv (xf + (1 : Int32)), iv (xf + (2 : Int32)), rv vq81, rv vq87, rv r1q81, rv r2q81, rv r1q87, rv r2q87] [(.int (0 : Int32)), (.ref r1q81)] _
        exact kt)
      have ls126 := own_iaload X107 hx hZ eq107 f91 (j := (0 : Int32)) (i := 0) (by decide) (by decide) (by decide) (v := (.int v_b1)) (rfl) (g := (mkF m 338 #[iv xf, iv xg, .val (.long xt), .second, .val (.long xq), .second, .val (.long xc), .second, iv bg, iv od, iv v_x, iv v_y, iv v_b1, iv v_b2, iv v_f1, iv v_f2, iv v_c, iv v_fc, rv b1, rv b2, iv (xf + (1 : Int32)), iv (xf + (2 : Int32)), rv vq81, rv vq87, rv r1q81, rv r2q81, rv r1q87, rv r2q87] [(.int (0 : Int32)), (.ref r1q81)])) rfl rfl (hb hby at_338)
      have st127 : own_Go p e below (T107.setTop (mkF m 339 #[iv xf, iv xg, .val (.long xt), .second, .val (.long xq), .second, .val (.long xc), .second, iv bg, iv od, iv v_x, iv v_y, iv v_b1, iv v_b2, iv v_f1, iv v_f2, iv v_c, iv v_fc, rv b1, rv b2, iv (xf + (1 : Int32)), iv (xf + (2 : Int32)), rv vq81, rv vq87, rv r1q81, rv r2q81, rv r1q87, rv r2q87] [(.int v_b1)])) B0 := fun t kt => st125 t (ls126 t kt)
      have hc128 : v_b1 = v_b1 := rfl
      have st129 : own_Go p e below (T107.setTop (mkF m 347 #[iv xf, iv xg, .val (.long xt), .second, .val (.long xq), .second, .val (.long xc), .second, iv bg, iv od, iv v_x, iv v_y, iv v_b1, iv v_b2, iv v_f1, iv v_f2, iv v_c, iv v_fc, rv b1, rv b2, iv (xf + (1 : Int32)), iv (xf + (2 : Int32)), rv vq81, rv vq87, rv r1q81, rv r2q81, rv r1q87, rv r2q87] [(.int (1 : Int32)), (.ref r1q81)])) B0 := fun t kt => st127 t (by
        show own_At p e below T107 m 339 #[iv xf, iv xg, .val (.long xt), .second, .val (.long xq), .second, .val (.long xc), .second, iv bg, iv od, iv v_x, iv v_y, iv v_b1, iv v_b2, iv v_f1, iv v_f2, iv v_c, iv v_fc, rv b1, rv b2, iv (xf + (1 : Int32)), iv (xf + (2 : Int32)), rv vq81, rv vq87, rv r1q81, rv r2q81, rv r1q87, rv r2q87] [(.int v_b1)] _
        refine XS.iload X107.here hx rfl (hb hby at_339) rfl ?_
        show own_At p e below T107 m 341 #[iv xf, iv xg, .val (.long xt), .second, .val (.long xq), .second, .val (.long xc), .second, iv bg, iv od, iv v_x, iv v_y, iv v_b1, iv v_b2, iv v_f1, iv v_f2, iv v_c, iv v_fc, rv b1, rv b2, iv (xf + (1 : Int32)), iv (xf + (2 : Int32)), rv vq81, rv vq87, rv r1q81, rv r2q81, rv r1q87, rv r2q87] [(.int v_b1), (.int v_b1)] _
        refine XS.icmpNo X107.here hx rfl (hb hby at_341) rfl (teq hc128).2 ?_
        show own_At p e below T107 m 344 #[iv xf, iv xg, .val (.long xt), .second, .val (.long xq), .second, .val (.long xc), .second, iv bg, iv od, iv v_x, iv v_y, iv v_b1, iv v_b2, iv v_f1, iv v_f2, iv v_c, iv v_fc, rv b1, rv b2, iv (xf + (1 : Int32)), iv (xf + (2 : Int32)), rv vq81, rv vq87, rv r1q81, rv r2q81, rv r1q87, rv r2q87] [] _
        refine XS.aload X107.here hx rfl (hb hby at_344) rfl rfl ?_
        show own_At p e below T107 m 346 #[iv xf, iv xg, .val (.long xt), .second, .val (.long xq), .second, .val (.long xc), .second, iv bg, iv od, iv v_x, iv v_y, iv v_b1, iv v_b2, iv v_f1, iv v_f2, iv v_c, iv v_fc, rv b1, rv b2, iv (xf + (1 : Int32)), iv (xf + (2 : Int32)), rv vq81, rv vq87, rv r1q81, rv r2q81, rv r1q87, rv r2q87] [(.ref r1q81)] _
        refine XS.iconst X107.here hx rfl (hb hby at_346) ?_
        show own_At p e below T107 m 347 #[iv xf, iv xg, .val (.long xt), .second, .val (.long xq), .second, .val (.long xc), .second, iv bg, iv od, iv v_x, iv v_y, iv v_b1, iv v_b2, iv v_f1, iv v_f2, iv v_c, iv v_fc, rv b1, rv b2, iv (xf + (1 : Int32)), iv (xf + (2 : Int32)), rv vq81, rv vq87, rv r1q81, rv r2q81, rv r1q87, rv r2q87] [(.int (1 : Int32)), (.ref r1q81)] _
        exact kt)
      have ls130 := own_iaload X107 hx hZ eq107 f91 (j := (1 : Int32)) (i := 1) (by decide) (by decide) (by decide) (v := (.int v_b2)) (rfl) (g := (mkF m 347 #[iv xf, iv xg, .val (.long xt), .second, .val (.long xq), .second, .val (.long xc), .second, iv bg, iv od, iv v_x, iv v_y, iv v_b1, iv v_b2, iv v_f1, iv v_f2, iv v_c, iv v_fc, rv b1, rv b2, iv (xf + (1 : Int32)), iv (xf + (2 : Int32)), rv vq81, rv vq87, rv r1q81, rv r2q81, rv r1q87, rv r2q87] [(.int (1 : Int32)), (.ref r1q81)])) rfl rfl (hb hby at_347)
      have st131 : own_Go p e below (T107.setTop (mkF m 348 #[iv xf, iv xg, .val (.long xt), .second, .val (.long xq), .second, .val (.long xc), .second, iv bg, iv od, iv v_x, iv v_y, iv v_b1, iv v_b2, iv v_f1, iv v_f2, iv v_c, iv v_fc, rv b1, rv b2, iv (xf + (1 : Int32)), iv (xf + (2 : Int32)), rv vq81, rv vq87, rv r1q81, rv r2q81, rv r1q87, rv r2q87] [(.int v_b2)])) B0 := fun t kt => st129 t (ls130 t kt)
      have hc132 : v_b2 = v_b2 := rfl
      have st133 : own_Go p e below (T107.setTop (mkF m 356 #[iv xf, iv xg, .val (.long xt), .second, .val (.long xq), .second, .val (.long xc), .second, iv bg, iv od, iv v_x, iv v_y, iv v_b1, iv v_b2, iv v_f1, iv v_f2, iv v_c, iv v_fc, rv b1, rv b2, iv (xf + (1 : Int32)), iv (xf + (2 : Int32)), rv vq81, rv vq87, rv r1q81, rv r2q81, rv r1q87, rv r2q87] [(.int (0 : Int32)), (.ref r2q81)])) B0 := fun t kt => st131 t (by
        show own_At p e below T107 m 348 #[iv xf, iv xg, .val (.long xt), .second, .val (.long xq), .second, .val (.long xc), .second, iv bg, iv od, iv v_x, iv v_y, iv v_b1, iv v_b2, iv v_f1, iv v_f2, iv v_c, iv v_fc, rv b1, rv b2, iv (xf + (1 : Int32)), iv (xf + (2 : Int32)), rv vq81, rv vq87, rv r1q81, rv r2q81, rv r1q87, rv r2q87] [(.int v_b2)] _
        refine XS.iload X107.here hx rfl (hb hby at_348) rfl ?_
        show own_At p e below T107 m 350 #[iv xf, iv xg, .val (.long xt), .second, .val (.long xq), .second, .val (.long xc), .second, iv bg, iv od, iv v_x, iv v_y, iv v_b1, iv v_b2, iv v_f1, iv v_f2, iv v_c, iv v_fc, rv b1, rv b2, iv (xf + (1 : Int32)), iv (xf + (2 : Int32)), rv vq81, rv vq87, rv r1q81, rv r2q81, rv r1q87, rv r2q87] [(.int v_b2), (.int v_b2)] _
        refine XS.icmpNo X107.here hx rfl (hb hby at_350) rfl (teq hc132).2 ?_
        show own_At p e below T107 m 353 #[iv xf, iv xg, .val (.long xt), .second, .val (.long xq), .second, .val (.long xc), .second, iv bg, iv od, iv v_x, iv v_y, iv v_b1, iv v_b2, iv v_f1, iv v_f2, iv v_c, iv v_fc, rv b1, rv b2, iv (xf + (1 : Int32)), iv (xf + (2 : Int32)), rv vq81, rv vq87, rv r1q81, rv r2q81, rv r1q87, rv r2q87] [] _
        refine XS.aload X107.here hx rfl (hb hby at_353) rfl rfl ?_
        show own_At p e below T107 m 355 #[iv xf, iv xg, .val (.long xt), .second, .val (.long xq), .second, .val (.long xc), .second, iv bg, iv od, iv v_x, iv v_y, iv v_b1, iv v_b2, iv v_f1, iv v_f2, iv v_c, iv v_fc, rv b1, rv b2, iv (xf + (1 : Int32)), iv (xf + (2 : Int32)), rv vq81, rv vq87, rv r1q81, rv r2q81, rv r1q87, rv r2q87] [(.ref r2q81)] _
        refine XS.iconst X107.here hx rfl (hb hby at_355) ?_
        show own_At p e below T107 m 356 #[iv xf, iv xg, .val (.long xt), .second, .val (.long xq), .second, .val (.long xc), .second, iv bg, iv od, iv v_x, iv v_y, iv v_b1, iv v_b2, iv v_f1, iv v_f2, iv v_c, iv v_fc, rv b1, rv b2, iv (xf + (1 : Int32)), iv (xf + (2 : Int32)), rv vq81, rv vq87, rv r1q81, rv r2q81, rv r1q87, rv r2q87] [(.int (0 : Int32)), (.ref r2q81)] _
        exact kt)
      have ls134 := own_iaload X107 hx hZ eq107 f93 (j := (0 : Int32)) (i := 0) (by decide) (by decide) (by decide) (v := (.int v_f1)) (rfl) (g := (mkF m 356 #[iv xf, iv xg, .val (.long xt), .second, .val (.long xq), .second, .val (.long xc), .second, iv bg, iv od, iv v_x, iv v_y, iv v_b1, iv v_b2, iv v_f1, iv v_f2, iv v_c, iv v_fc, rv b1, rv b2, iv (xf + (1 : Int32)), iv (xf + (2 : Int32)), rv vq81, rv vq87, rv r1q81, rv r2q81, rv r1q87, rv r2q87] [(.int (0 : Int32)), (.ref r2q81)])) rfl rfl (hb hby at_356)
      have st135 : own_Go p e below (T107.setTop (mkF m 357 #[iv xf, iv xg, .val (.long xt), .second, .val (.long xq), .second, .val (.long xc), .second, iv bg, iv od, iv v_x, iv v_y, iv v_b1, iv v_b2, iv v_f1, iv v_f2, iv v_c, iv v_fc, rv b1, rv b2, iv (xf + (1 : Int32)), iv (xf + (2 : Int32)), rv vq81, rv vq87, rv r1q81, rv r2q81, rv r1q87, rv r2q87] [(.int v_f1)])) B0 := fun t kt => st133 t (ls134 t kt)
      have hc136 : v_f1 = v_f1 := rfl
      have st137 : own_Go p e below (T107.setTop (mkF m 365 #[iv xf, iv xg, .val (.long xt), .second, .val (.long xq), .second, .val (.long xc), .second, iv bg, iv od, iv v_x, iv v_y, iv v_b1, iv v_b2, iv v_f1, iv v_f2, iv v_c, iv v_fc, rv b1, rv b2, iv (xf + (1 : Int32)), iv (xf + (2 : Int32)), rv vq81, rv vq87, rv r1q81, rv r2q81, rv r1q87, rv r2q87] [(.int (1 : Int32)), (.ref r2q81)])) B0 := fun t kt => st135 t (by
        show own_At p e below T107 m 357 #[iv xf, iv xg, .val (.long xt), .second, .val (.long xq), .second, .val (.long xc), .second, iv bg, iv od, iv v_x, iv v_y, iv v_b1, iv v_b2, iv v_f1, iv v_f2, iv v_c, iv v_fc, rv b1, rv b2, iv (xf + (1 : Int32)), iv (xf + (2 : Int32)), rv vq81, rv vq87, rv r1q81, rv r2q81, rv r1q87, rv r2q87] [(.int v_f1)] _
        refine XS.iload X107.here hx rfl (hb hby at_357) rfl ?_
        show own_At p e below T107 m 359 #[iv xf, iv xg, .val (.long xt), .second, .val (.long xq), .second, .val (.long xc), .second, iv bg, iv od, iv v_x, iv v_y, iv v_b1, iv v_b2, iv v_f1, iv v_f2, iv v_c, iv v_fc, rv b1, rv b2, iv (xf + (1 : Int32)), iv (xf + (2 : Int32)), rv vq81, rv vq87, rv r1q81, rv r2q81, rv r1q87, rv r2q87] [(.int v_f1), (.int v_f1)] _
        refine XS.icmpNo X107.here hx rfl (hb hby at_359) rfl (teq hc136).2 ?_
        show own_At p e below T107 m 362 #[iv xf, iv xg, .val (.long xt), .second, .val (.long xq), .second, .val (.long xc), .second, iv bg, iv od, iv v_x, iv v_y, iv v_b1, iv v_b2, iv v_f1, iv v_f2, iv v_c, iv v_fc, rv b1, rv b2, iv (xf + (1 : Int32)), iv (xf + (2 : Int32)), rv vq81, rv vq87, rv r1q81, rv r2q81, rv r1q87, rv r2q87] [] _
        refine XS.aload X107.here hx rfl (hb hby at_362) rfl rfl ?_
        show own_At p e below T107 m 364 #[iv xf, iv xg, .val (.long xt), .second, .val (.long xq), .second, .val (.long xc), .second, iv bg, iv od, iv v_x, iv v_y, iv v_b1, iv v_b2, iv v_f1, iv v_f2, iv v_c, iv v_fc, rv b1, rv b2, iv (xf + (1 : Int32)), iv (xf + (2 : Int32)), rv vq81, rv vq87, rv r1q81, rv r2q81, rv r1q87, rv r2q87] [(.ref r2q81)] _
        refine XS.iconst X107.here hx rfl (hb hby at_364) ?_
        show own_At p e below T107 m 365 #[iv xf, iv xg, .val (.long xt), .second, .val (.long xq), .second, .val (.long xc), .second, iv bg, iv od, iv v_x, iv v_y, iv v_b1, iv v_b2, iv v_f1, iv v_f2, iv v_c, iv v_fc, rv b1, rv b2, iv (xf + (1 : Int32)), iv (xf + (2 : Int32)), rv vq81, rv vq87, rv r1q81, rv r2q81, rv r1q87, rv r2q87] [(.int (1 : Int32)), (.ref r2q81)] _
        exact kt)
      have ls138 := own_iaload X107 hx hZ eq107 f93 (j := (1 : Int32)) (i := 1) (by decide) (by decide) (by decide) (v := (.int v_f2)) (rfl) (g := (mkF m 365 #[iv xf, iv xg, .val (.long xt), .second, .val (.long xq), .second, .val (.long xc), .second, iv bg, iv od, iv v_x, iv v_y, iv v_b1, iv v_b2, iv v_f1, iv v_f2, iv v_c, iv v_fc, rv b1, rv b2, iv (xf + (1 : Int32)), iv (xf + (2 : Int32)), rv vq81, rv vq87, rv r1q81, rv r2q81, rv r1q87, rv r2q87] [(.int (1 : Int32)), (.ref r2q81)])) rfl rfl (hb hby at_365)
      have st139 : own_Go p e below (T107.setTop (mkF m 366 #[iv xf, iv xg, .val (.long xt), .second, .val (.long xq), .second, .val (.long xc), .second, iv bg, iv od, iv v_x, iv v_y, iv v_b1, iv v_b2, iv v_f1, iv v_f2, iv v_c, iv v_fc, rv b1, rv b2, iv (xf + (1 : Int32)), iv (xf + (2 : Int32)), rv vq81, rv vq87, rv r1q81, rv r2q81, rv r1q87, rv r2q87] [(.int v_f2)])) B0 := fun t kt => st137 t (ls138 t kt)
      have hc140 : v_f2 = v_f2 := rfl
      have st141 : own_Go p e below (T107.setTop (mkF m 374 #[iv xf, iv xg, .val (.long xt), .second, .val (.long xq), .second, .val (.long xc), .second, iv bg, iv od, iv v_x, iv v_y, iv v_b1, iv v_b2, iv v_f1, iv v_f2, iv v_c, iv v_fc, rv b1, rv b2, iv (xf + (1 : Int32)), iv (xf + (2 : Int32)), rv vq81, rv vq87, rv r1q81, rv r2q81, rv r1q87, rv r2q87] [(.int (0 : Int32)), (.ref r1q87)])) B0 := fun t kt => st139 t (by
        show own_At p e below T107 m 366 #[iv xf, iv xg, .val (.long xt), .second, .val (.long xq), .second, .val (.long xc), .second, iv bg, iv od, iv v_x, iv v_y, iv v_b1, iv v_b2, iv v_f1, iv v_f2, iv v_c, iv v_fc, rv b1, rv b2, iv (xf + (1 : Int32)), iv (xf + (2 : Int32)), rv vq81, rv vq87, rv r1q81, rv r2q81, rv r1q87, rv r2q87] [(.int v_f2)] _
        refine XS.iload X107.here hx rfl (hb hby at_366) rfl ?_
        show own_At p e below T107 m 368 #[iv xf, iv xg, .val (.long xt), .second, .val (.long xq), .second, .val (.long xc), .second, iv bg, iv od, iv v_x, iv v_y, iv v_b1, iv v_b2, iv v_f1, iv v_f2, iv v_c, iv v_fc, rv b1, rv b2, iv (xf + (1 : Int32)), iv (xf + (2 : Int32)), rv vq81, rv vq87, rv r1q81, rv r2q81, rv r1q87, rv r2q87] [(.int v_f2), (.int v_f2)] _
        refine XS.icmpNo X107.here hx rfl (hb hby at_368) rfl (teq hc140).2 ?_
        show own_At p e below T107 m 371 #[iv xf, iv xg, .val (.long xt), .second, .val (.long xq), .second, .val (.long xc), .second, iv bg, iv od, iv v_x, iv v_y, iv v_b1, iv v_b2, iv v_f1, iv v_f2, iv v_c, iv v_fc, rv b1, rv b2, iv (xf + (1 : Int32)), iv (xf + (2 : Int32)), rv vq81, rv vq87, rv r1q81, rv r2q81, rv r1q87, rv r2q87] [] _
        refine XS.aload X107.here hx rfl (hb hby at_371) rfl rfl ?_
        show own_At p e below T107 m 373 #[iv xf, iv xg, .val (.long xt), .second, .val (.long xq), .second, .val (.long xc), .second, iv bg, iv od, iv v_x, iv v_y, iv v_b1, iv v_b2, iv v_f1, iv v_f2, iv v_c, iv v_fc, rv b1, rv b2, iv (xf + (1 : Int32)), iv (xf + (2 : Int32)), rv vq81, rv vq87, rv r1q81, rv r2q81, rv r1q87, rv r2q87] [(.ref r1q87)] _
        refine XS.iconst X107.here hx rfl (hb hby at_373) ?_
        show own_At p e below T107 m 374 #[iv xf, iv xg, .val (.long xt), .second, .val (.long xq), .second, .val (.long xc), .second, iv bg, iv od, iv v_x, iv v_y, iv v_b1, iv v_b2, iv v_f1, iv v_f2, iv v_c, iv v_fc, rv b1, rv b2, iv (xf + (1 : Int32)), iv (xf + (2 : Int32)), rv vq81, rv vq87, rv r1q81, rv r2q81, rv r1q87, rv r2q87] [(.int (0 : Int32)), (.ref r1q87)] _
        exact kt)
      have ls142 := own_iaload X107 hx hZ eq107 Ar1q87 (j := (0 : Int32)) (i := 0) (by decide) (by decide) (by decide) (v := (.int v_c)) (rfl) (g := (mkF m 374 #[iv xf, iv xg, .val (.long xt), .second, .val (.long xq), .second, .val (.long xc), .second, iv bg, iv od, iv v_x, iv v_y, iv v_b1, iv v_b2, iv v_f1, iv v_f2, iv v_c, iv v_fc, rv b1, rv b2, iv (xf + (1 : Int32)), iv (xf + (2 : Int32)), rv vq81, rv vq87, rv r1q81, rv r2q81, rv r1q87, rv r2q87] [(.int (0 : Int32)), (.ref r1q87)])) rfl rfl (hb hby at_374)
      have st143 : own_Go p e below (T107.setTop (mkF m 375 #[iv xf, iv xg, .val (.long xt), .second, .val (.long xq), .second, .val (.long xc), .second, iv bg, iv od, iv v_x, iv v_y, iv v_b1, iv v_b2, iv v_f1, iv v_f2, iv v_c, iv v_fc, rv b1, rv b2, iv (xf + (1 : Int32)), iv (xf + (2 : Int32)), rv vq81, rv vq87, rv r1q81, rv r2q81, rv r1q87, rv r2q87] [(.int v_c)])) B0 := fun t kt => st141 t (ls142 t kt)
      have hc144 : v_c = v_c := rfl
      have st145 : own_Go p e below (T107.setTop (mkF m 383 #[iv xf, iv xg, .val (.long xt), .second, .val (.long xq), .second, .val (.long xc), .second, iv bg, iv od, iv v_x, iv v_y, iv v_b1, iv v_b2, iv v_f1, iv v_f2, iv v_c, iv v_fc, rv b1, rv b2, iv (xf + (1 : Int32)), iv (xf + (2 : Int32)), rv vq81, rv vq87, rv r1q81, rv r2q81, rv r1q87, rv r2q87] [(.int (0 : Int32)), (.ref r2q87)])) B0 := fun t kt => st143 t (by
        show own_At p e below T107 m 375 #[iv xf, iv xg, .val (.long xt), .second, .val (.long xq), .second, .val (.long xc), .second, iv bg, iv od, iv v_x, iv v_y, iv v_b1, iv v_b2, iv v_f1, iv v_f2, iv v_c, iv v_fc, rv b1, rv b2, iv (xf + (1 : Int32)), iv (xf + (2 : Int32)), rv vq81, rv vq87, rv r1q81, rv r2q81, rv r1q87, rv r2q87] [(.int v_c)] _
        refine XS.iload X107.here hx rfl (hb hby at_375) rfl ?_
        show own_At p e below T107 m 377 #[iv xf, iv xg, .val (.long xt), .second, .val (.long xq), .second, .val (.long xc), .second, iv bg, iv od, iv v_x, iv v_y, iv v_b1, iv v_b2, iv v_f1, iv v_f2, iv v_c, iv v_fc, rv b1, rv b2, iv (xf + (1 : Int32)), iv (xf + (2 : Int32)), rv vq81, rv vq87, rv r1q81, rv r2q81, rv r1q87, rv r2q87] [(.int v_c), (.int v_c)] _
        refine XS.icmpNo X107.here hx rfl (hb hby at_377) rfl (teq hc144).2 ?_
        show own_At p e below T107 m 380 #[iv xf, iv xg, .val (.long xt), .second, .val (.long xq), .second, .val (.long xc), .second, iv bg, iv od, iv v_x, iv v_y, iv v_b1, iv v_b2, iv v_f1, iv v_f2, iv v_c, iv v_fc, rv b1, rv b2, iv (xf + (1 : Int32)), iv (xf + (2 : Int32)), rv vq81, rv vq87, rv r1q81, rv r2q81, rv r1q87, rv r2q87] [] _
        refine XS.aload X107.here hx rfl (hb hby at_380) rfl rfl ?_
        show own_At p e below T107 m 382 #[iv xf, iv xg, .val (.long xt), .second, .val (.long xq), .second, .val (.long xc), .second, iv bg, iv od, iv v_x, iv v_y, iv v_b1, iv v_b2, iv v_f1, iv v_f2, iv v_c, iv v_fc, rv b1, rv b2, iv (xf + (1 : Int32)), iv (xf + (2 : Int32)), rv vq81, rv vq87, rv r1q81, rv r2q81, rv r1q87, rv r2q87] [(.ref r2q87)] _
        refine XS.iconst X107.here hx rfl (hb hby at_382) ?_
        show own_At p e below T107 m 383 #[iv xf, iv xg, .val (.long xt), .second, .val (.long xq), .second, .val (.long xc), .second, iv bg, iv od, iv v_x, iv v_y, iv v_b1, iv v_b2, iv v_f1, iv v_f2, iv v_c, iv v_fc, rv b1, rv b2, iv (xf + (1 : Int32)), iv (xf + (2 : Int32)), rv vq81, rv vq87, rv r1q81, rv r2q81, rv r1q87, rv r2q87] [(.int (0 : Int32)), (.ref r2q87)] _
        exact kt)
      have ls146 := own_iaload X107 hx hZ eq107 Ar2q87 (j := (0 : Int32)) (i := 0) (by decide) (by decide) (by decide) (v := (.int v_fc)) (rfl) (g := (mkF m 383 #[iv xf, iv xg, .val (.long xt), .second, .val (.long xq), .second, .val (.long xc), .second, iv bg, iv od, iv v_x, iv v_y, iv v_b1, iv v_b2, iv v_f1, iv v_f2, iv v_c, iv v_fc, rv b1, rv b2, iv (xf + (1 : Int32)), iv (xf + (2 : Int32)), rv vq81, rv vq87, rv r1q81, rv r2q81, rv r1q87, rv r2q87] [(.int (0 : Int32)), (.ref r2q87)])) rfl rfl (hb hby at_383)
      have st147 : own_Go p e below (T107.setTop (mkF m 384 #[iv xf, iv xg, .val (.long xt), .second, .val (.long xq), .second, .val (.long xc), .second, iv bg, iv od, iv v_x, iv v_y, iv v_b1, iv v_b2, iv v_f1, iv v_f2, iv v_c, iv v_fc, rv b1, rv b2, iv (xf + (1 : Int32)), iv (xf + (2 : Int32)), rv vq81, rv vq87, rv r1q81, rv r2q81, rv r1q87, rv r2q87] [(.int v_fc)])) B0 := fun t kt => st145 t (ls146 t kt)
      have hc148 : v_fc = v_fc := rfl
      have st149 : own_Go p e below (T107.setTop (mkF m 394 #[iv xf, iv xg, .val (.long xt), .second, .val (.long xq), .second, .val (.long xc), .second, iv bg, iv od, iv v_x, iv v_y, iv v_b1, iv v_b2, iv v_f1, iv v_f2, iv v_c, iv v_fc, rv b1, rv b2, iv (xf + (1 : Int32)), iv (xf + (2 : Int32)), rv vq81, rv vq87, rv r1q81, rv r2q81, rv r1q87, rv r2q87] [(.int (1 : Int32))])) B0 := fun t kt => st147 t (by
        show own_At p e below T107 m 384 #[iv xf, iv xg, .val (.long xt), .second, .val (.long xq), .second, .val (.long xc), .second, iv bg, iv od, iv v_x, iv v_y, iv v_b1, iv v_b2, iv v_f1, iv v_f2, iv v_c, iv v_fc, rv b1, rv b2, iv (xf + (1 : Int32)), iv (xf + (2 : Int32)), rv vq81, rv vq87, rv r1q81, rv r2q81, rv r1q87, rv r2q87] [(.int v_fc)] _
        refine XS.iload X107.here hx rfl (hb hby at_384) rfl ?_
        show own_At p e below T107 m 386 #[iv xf, iv xg, .val (.long xt), .second, .val (.long xq), .second, .val (.long xc), .second, iv bg, iv od, iv v_x, iv v_y, iv v_b1, iv v_b2, iv v_f1, iv v_f2, iv v_c, iv v_fc, rv b1, rv b2, iv (xf + (1 : Int32)), iv (xf + (2 : Int32)), rv vq81, rv vq87, rv r1q81, rv r2q81, rv r1q87, rv r2q87] [(.int v_fc), (.int v_fc)] _
        refine XS.icmpNo X107.here hx rfl (hb hby at_386) rfl (teq hc148).2 ?_
        show own_At p e below T107 m 389 #[iv xf, iv xg, .val (.long xt), .second, .val (.long xq), .second, .val (.long xc), .second, iv bg, iv od, iv v_x, iv v_y, iv v_b1, iv v_b2, iv v_f1, iv v_f2, iv v_c, iv v_fc, rv b1, rv b2, iv (xf + (1 : Int32)), iv (xf + (2 : Int32)), rv vq81, rv vq87, rv r1q81, rv r2q81, rv r1q87, rv r2q87] [] _
        refine XS.iconst X107.here hx rfl (hb hby at_389) ?_
        show own_At p e below T107 m 390 #[iv xf, iv xg, .val (.long xt), .second, .val (.long xq), .second, .val (.long xc), .second, iv bg, iv od, iv v_x, iv v_y, iv v_b1, iv v_b2, iv v_f1, iv v_f2, iv v_c, iv v_fc, rv b1, rv b2, iv (xf + (1 : Int32)), iv (xf + (2 : Int32)), rv vq81, rv vq87, rv r1q81, rv r2q81, rv r1q87, rv r2q87] [(.int (1 : Int32))] _
        refine XS.goto X107.here hx rfl (pc0 := 390) (pc' := 394) rfl (hb hby at_390) (by decide) (by decide) ?_
        show own_At p e below T107 m 394 #[iv xf, iv xg, .val (.long xt), .second, .val (.long xq), .second, .val (.long xc), .second, iv bg, iv od, iv v_x, iv v_y, iv v_b1, iv v_b2, iv v_f1, iv v_f2, iv v_c, iv v_fc, rv b1, rv b2, iv (xf + (1 : Int32)), iv (xf + (2 : Int32)), rv vq81, rv vq87, rv r1q81, rv r2q81, rv r1q87, rv r2q87] [(.int (1 : Int32))] _
        exact kt)
      obtain ⟨fs, hr, hrun, hended, hW, hsame⟩ := X107.leave (v := (some (.int (1 : Int32)))) (fun h => by rw [Bd.returns] at h; cases h)
      subst hB0
      refine ⟨_, _, st149 _ ?_, hrun, hended, _, _, rfl, ?_, ⟨_, rfl⟩, hW, hsame.mono (by decide) (by decide)⟩
      · exact retN X107 hx (t := .boolean) Bd.returns (by simp) (hb hby at_394) hr
      · show Q_rm_law Z xf xg xt xq xc h0 n0 _ T107.heap _
        rw [eq107]
        exact ⟨rfl, N107⟩
    · have st150 : own_Go p e below (T14.setTop (mkF m 105 #[iv xf, iv xg, .val (.long xt), .second, .val (.long xq), .second, .val (.long xc), .second, iv bg, iv od, iv v_x, iv v_y, iv v_b1, iv v_b2, iv v_f1, iv v_f2, iv v_c, iv v_fc, .unset, .unset, .unset, .unset, .unset, .unset, .unset, .unset, .unset, .unset] [(.int (16383 : Int32)), (.int (0 : Int32)), (.ref b1), (.ref b1)])) B0 := fun t kt => st18 t (by
        show own_At p e below T14 m 95 #[iv xf, iv xg, .val (.long xt), .second, .val (.long xq), .second, .val (.long xc), .second, iv bg, iv od, iv v_x, iv v_y, iv v_b1, iv v_b2, iv v_f1, iv v_f2, iv v_c, iv v_fc, .unset, .unset, .unset, .unset, .unset, .unset, .unset, .unset, .unset, .unset] [(.int bg), (.int (0 : Int32)), (.ref b1), (.ref b1)] _
        refine XS.ifNo X14.here hx rfl (hb hby at_95) rfl ((if0 _ _).trans (feq q1).1) ?_
        show own_At p e below T14 m 98 #[iv xf, iv xg, .val (.long xt), .second, .val (.long xq), .second, .val (.long xc), .second, iv bg, iv od, iv v_x, iv v_y, iv v_b1, iv v_b2, iv v_f1, iv v_f2, iv v_c, iv v_fc, .unset, .unset, .unset, .unset, .unset, .unset, .unset, .unset, .unset, .unset] [(.int (0 : Int32)), (.ref b1), (.ref b1)] _
        refine XS.sipush X14.here hx rfl (hb hby at_98) ?_
        show own_At p e below T14 m 101 #[iv xf, iv xg, .val (.long xt), .second, .val (.long xq), .second, .val (.long xc), .second, iv bg, iv od, iv v_x, iv v_y, iv v_b1, iv v_b2, iv v_f1, iv v_f2, iv v_c, iv v_fc, .unset, .unset, .unset, .unset, .unset, .unset, .unset, .unset, .unset, .unset] [(.int (16383 : Int32)), (.int (0 : Int32)), (.ref b1), (.ref b1)] _
        refine XS.goto X14.here hx rfl (pc0 := 101) (pc' := 105) rfl (hb hby at_101) (by decide) (by decide) ?_
        show own_At p e below T14 m 105 #[iv xf, iv xg, .val (.long xt), .second, .val (.long xq), .second, .val (.long xc), .second, iv bg, iv od, iv v_x, iv v_y, iv v_b1, iv v_b2, iv v_f1, iv v_f2, iv v_c, iv v_fc, .unset, .unset, .unset, .unset, .unset, .unset, .unset, .unset, .unset, .unset] [(.int (16383 : Int32)), (.int (0 : Int32)), (.ref b1), (.ref b1)] _
        exact kt)
      obtain ⟨T151, h151, X151, e151, W151, B151, ls151⟩ := own_iastore X14 hx hZ e14 f16 (j := (0 : Int32)) (i := 0) (by decide) (by decide) (by decide) (g := (mkF m 105 #[iv xf, iv xg, .val (.long xt), .second, .val (.long xq), .second, .val (.long xc), .second, iv bg, iv od, iv v_x, iv v_y, iv v_b1, iv v_b2, iv v_f1, iv v_f2, iv v_c, iv v_fc, .unset, .unset, .unset, .unset, .unset, .unset, .unset, .unset, .unset, .unset] [(.int (16383 : Int32)), (.int (0 : Int32)), (.ref b1), (.ref b1)])) rfl rfl (hb hby at_105)
      have N151 := Fr.snoc X151 N11 g_b1
      have z152 := Nat.le_trans z15 (Keep.of_wr W151).1
      have f153 := B151
      have st154 : own_Go p e below (T151.setTop (mkF m 106 #[iv xf, iv xg, .val (.long xt), .second, .val (.long xq), .second, .val (.long xc), .second, iv bg, iv od, iv v_x, iv v_y, iv v_b1, iv v_b2, iv v_f1, iv v_f2, iv v_c, iv v_fc, .unset, .unset, .unset, .unset, .unset, .unset, .unset, .unset, .unset, .unset] [(.ref b1)])) B0 := fun t kt => st150 t (ls151 t kt)
      have st155 : own_Go p e below (T151.setTop (mkF m 109 #[iv xf, iv xg, .val (.long xt), .second, .val (.long xq), .second, .val (.long xc), .second, iv bg, iv od, iv v_x, iv v_y, iv v_b1, iv v_b2, iv v_f1, iv v_f2, iv v_c, iv v_fc, .unset, .unset, .unset, .unset, .unset, .unset, .unset, .unset, .unset, .unset] [(.int (2 : Int32)), (.int (1 : Int32)), (.ref b1), (.ref b1)])) B0 := fun t kt => st154 t (by
        show own_At p e below T151 m 106 #[iv xf, iv xg, .val (.long xt), .second, .val (.long xq), .second, .val (.long xc), .second, iv bg, iv od, iv v_x, iv v_y, iv v_b1, iv v_b2, iv v_f1, iv v_f2, iv v_c, iv v_fc, .unset, .unset, .unset, .unset, .unset, .unset, .unset, .unset, .unset, .unset] [(.ref b1)] _
        refine XS.dup X151.here hx rfl (hb hby at_106) rfl rfl ?_
        show own_At p e below T151 m 107 #[iv xf, iv xg, .val (.long xt), .second, .val (.long xq), .second, .val (.long xc), .second, iv bg, iv od, iv v_x, iv v_y, iv v_b1, iv v_b2, iv v_f1, iv v_f2, iv v_c, iv v_fc, .unset, .unset, .unset, .unset, .unset, .unset, .unset, .unset, .unset, .unset] [(.ref b1), (.ref b1)] _
        refine XS.iconst X151.here hx rfl (hb hby at_107) ?_
        show own_At p e below T151 m 108 #[iv xf, iv xg, .val (.long xt), .second, .val (.long xq), .second, .val (.long xc), .second, iv bg, iv od, iv v_x, iv v_y, iv v_b1, iv v_b2, iv v_f1, iv v_f2, iv v_c, iv v_fc, .unset, .unset, .unset, .unset, .unset, .unset, .unset, .unset, .unset, .unset] [(.int (1 : Int32)), (.ref b1), (.ref b1)] _
        refine XS.iconst X151.here hx rfl (hb hby at_108) ?_
        show own_At p e below T151 m 109 #[iv xf, iv xg, .val (.long xt), .second, .val (.long xq), .second, .val (.long xc), .second, iv bg, iv od, iv v_x, iv v_y, iv v_b1, iv v_b2, iv v_f1, iv v_f2, iv v_c, iv v_fc, .unset, .unset, .unset, .unset, .unset, .unset, .unset, .unset, .unset, .unset] [(.int (2 : Int32)), (.int (1 : Int32)), (.ref b1), (.ref b1)] _
        exact kt)
      obtain ⟨T156, h156, X156, e156, W156, B156, ls156⟩ := own_iastore X151 hx hZ e151 f153 (j := (1 : Int32)) (i := 1) (by decide) (by decide) (by decide) (g := (mkF m 109 #[iv xf, iv xg, .val (.long xt), .second, .val (.long xq), .second, .val (.long xc), .second, iv bg, iv od, iv v_x, iv v_y, iv v_b1, iv v_b2, iv v_f1, iv v_f2, iv v_c, iv v_fc, .unset, .unset, .unset, .unset, .unset, .unset, .unset, .unset, .unset, .unset] [(.int (2 : Int32)), (.int (1 : Int32)), (.ref b1), (.ref b1)])) rfl rfl (hb hby at_109)
      have N156 := Fr.snoc X156 N151 g_b1
      have z157 := Nat.le_trans z152 (Keep.of_wr W156).1
      have f158 := B156
      have st159 : own_Go p e below (T156.setTop (mkF m 110 #[iv xf, iv xg, .val (.long xt), .second, .val (.long xq), .second, .val (.long xc), .second, iv bg, iv od, iv v_x, iv v_y, iv v_b1, iv v_b2, iv v_f1, iv v_f2, iv v_c, iv v_fc, .unset, .unset, .unset, .unset, .unset, .unset, .unset, .unset, .unset, .unset] [(.ref b1)])) B0 := fun t kt => st155 t (ls156 t kt)
      have st160 : own_Go p e below (T156.setTop (mkF m 113 #[iv xf, iv xg, .val (.long xt), .second, .val (.long xq), .second, .val (.long xc), .second, iv bg, iv od, iv v_x, iv v_y, iv v_b1, iv v_b2, iv v_f1, iv v_f2, iv v_c, iv v_fc, .unset, .unset, .unset, .unset, .unset, .unset, .unset, .unset, .unset, .unset] [(.int (1 : Int32)), (.int (2 : Int32)), (.ref b1), (.ref b1)])) B0 := fun t kt => st159 t (by
        show own_At p e below T156 m 110 #[iv xf, iv xg, .val (.long xt), .second, .val (.long xq), .second, .val (.long xc), .second, iv bg, iv od, iv v_x, iv v_y, iv v_b1, iv v_b2, iv v_f1, iv v_f2, iv v_c, iv v_fc, .unset, .unset, .unset, .unset, .unset, .unset, .unset, .unset, .unset, .unset] [(.ref b1)] _
        refine XS.dup X156.here hx rfl (hb hby at_110) rfl rfl ?_
        show own_At p e below T156 m 111 #[iv xf, iv xg, .val (.long xt), .second, .val (.long xq), .second, .val (.long xc), .second, iv bg, iv od, iv v_x, iv v_y, iv v_b1, iv v_b2, iv v_f1, iv v_f2, iv v_c, iv v_fc, .unset, .unset, .unset, .unset, .unset, .unset, .unset, .unset, .unset, .unset] [(.ref b1), (.ref b1)] _
        refine XS.iconst X156.here hx rfl (hb hby at_111) ?_
        show own_At p e below T156 m 112 #[iv xf, iv xg, .val (.long xt), .second, .val (.long xq), .second, .val (.long xc), .second, iv bg, iv od, iv v_x, iv v_y, iv v_b1, iv v_b2, iv v_f1, iv v_f2, iv v_c, iv v_fc, .unset, .unset, .unset, .unset, .unset, .unset, .unset, .unset, .unset, .unset] [(.int (2 : Int32)), (.ref b1), (.ref b1)] _
        refine XS.iconst X156.here hx rfl (hb hby at_112) ?_
        show own_At p e below T156 m 113 #[iv xf, iv xg, .val (.long xt), .second, .val (.long xq), .second, .val (.long xc), .second, iv bg, iv od, iv v_x, iv v_y, iv v_b1, iv v_b2, iv v_f1, iv v_f2, iv v_c, iv v_fc, .unset, .unset, .unset, .unset, .unset, .unset, .unset, .unset, .unset, .unset] [(.int (1 : Int32)), (.int (2 : Int32)), (.ref b1), (.ref b1)] _
        exact kt)
      obtain ⟨T161, h161, X161, e161, W161, B161, ls161⟩ := own_iastore X156 hx hZ e156 f158 (j := (2 : Int32)) (i := 2) (by decide) (by decide) (by decide) (g := (mkF m 113 #[iv xf, iv xg, .val (.long xt), .second, .val (.long xq), .second, .val (.long xc), .second, iv bg, iv od, iv v_x, iv v_y, iv v_b1, iv v_b2, iv v_f1, iv v_f2, iv v_c, iv v_fc, .unset, .unset, .unset, .unset, .unset, .unset, .unset, .unset, .unset, .unset] [(.int (1 : Int32)), (.int (2 : Int32)), (.ref b1), (.ref b1)])) rfl rfl (hb hby at_113)
      have N161 := Fr.snoc X161 N156 g_b1
      have z162 := Nat.le_trans z157 (Keep.of_wr W161).1
      have f163 := B161
      have st164 : own_Go p e below (T161.setTop (mkF m 114 #[iv xf, iv xg, .val (.long xt), .second, .val (.long xq), .second, .val (.long xc), .second, iv bg, iv od, iv v_x, iv v_y, iv v_b1, iv v_b2, iv v_f1, iv v_f2, iv v_c, iv v_fc, .unset, .unset, .unset, .unset, .unset, .unset, .unset, .unset, .unset, .unset] [(.ref b1)])) B0 := fun t kt => st160 t (ls161 t kt)
      have st165 : own_Go p e below (T161.setTop (mkF m 116 #[iv xf, iv xg, .val (.long xt), .second, .val (.long xq), .second, .val (.long xc), .second, iv bg, iv od, iv v_x, iv v_y, iv v_b1, iv v_b2, iv v_f1, iv v_f2, iv v_c, iv v_fc, rv b1, .unset, .unset, .unset, .unset, .unset, .unset, .unset, .unset, .unset] [])) B0 := fun t kt => st164 t (by
        show own_At p e below T161 m 114 #[iv xf, iv xg, .val (.long xt), .second, .val (.long xq), .second, .val (.long xc), .second, iv bg, iv od, iv v_x, iv v_y, iv v_b1, iv v_b2, iv v_f1, iv v_f2, iv v_c, iv v_fc, .unset, .unset, .unset, .unset, .unset, .unset, .unset, .unset, .unset, .unset] [(.ref b1)] _
        refine XS.astore X161.here hx rfl (hb hby at_114) rfl rfl (l' := #[iv xf, iv xg, .val (.long xt), .second, .val (.long xq), .second, .val (.long xc), .second, iv bg, iv od, iv v_x, iv v_y, iv v_b1, iv v_b2, iv v_f1, iv v_f2, iv v_c, iv v_fc, rv b1, .unset, .unset, .unset, .unset, .unset, .unset, .unset, .unset, .unset]) rfl ?_
        show own_At p e below T161 m 116 #[iv xf, iv xg, .val (.long xt), .second, .val (.long xq), .second, .val (.long xc), .second, iv bg, iv od, iv v_x, iv v_y, iv v_b1, iv v_b2, iv v_f1, iv v_f2, iv v_c, iv v_fc, rv b1, .unset, .unset, .unset, .unset, .unset, .unset, .unset, .unset, .unset] [] _
        exact kt)
      obtain ⟨T166, h166, X166, e166, E166, A166, D166, -, ls166⟩ := newO X161 hx hZ hown (hw _ (List.mem_of_getElem? (i := 8) rfl)) (hw _ (List.mem_of_getElem? (i := 9) rfl)) (hw _ (List.mem_of_getElem? (i := 10) rfl)) e161 (g := (mkF m 116 #[iv xf, iv xg, .val (.long xt), .second, .val (.long xq), .second, .val (.long xc), .second, iv bg, iv od, iv v_x, iv v_y, iv v_b1, iv v_b2, iv v_f1, iv v_f2, iv v_c, iv v_fc, rv b1, .unset, .unset, .unset, .unset, .unset, .unset, .unset, .unset, .unset] [])) rfl (hb hby at_116) (by decide) (by decide)
      obtain ⟨b2, g166⟩ : ∃ z, z = h161.size := ⟨_, rfl⟩
      rw [← g166] at A166 D166 ls166
      have ne_b1_b2 : b1 ≠ b2 := Nat.ne_of_lt (Nat.lt_of_lt_of_le f163.lt (Nat.le_of_eq g166.symm))
      have g_b2 : n0 ≤ b2 := Nat.le_trans z162 (Nat.le_of_eq g166.symm)
      have f167 := f163.ext E166
      have z168 := Nat.le_trans z162 E166.1
      have f169 : Fld Z h166 b2 "com/example/ranked_text_search/rankedtextsearch/MemoryTermVectors" "terms" "[Ljava/lang/String;" .null := D166 (Or.inr (hw _ (List.mem_of_getElem? (i := 18) rfl))) (ty := (.array (.object "java/lang/String"))) (by decide)
      have f170 : Fld Z h166 b2 "com/example/ranked_text_search/rankedtextsearch/MemoryTermVectors" "from" "I" (.int (0 : Int32)) := D166 (Or.inr (hw _ (List.mem_of_getElem? (i := 20) rfl))) (ty := .int) (by decide)
      have f171 : Fld Z h166 b2 "com/example/ranked_text_search/rankedtextsearch/MemoryTermVectors" "starts" "[I" .null := D166 (Or.inr (hw _ (List.mem_of_getElem? (i := 22) rfl))) (ty := (.array .int)) (by decide)
      have f172 : Fld Z h166 b2 "com/example/ranked_text_search/rankedtextsearch/MemoryTermVectors" "termNumbers" "[[I" .null := D166 (Or.inr (hw _ (List.mem_of_getElem? (i := 32) rfl))) (ty := (.array (.array .int))) (by decide)
      have f173 : Fld Z h166 b2 "com/example/ranked_text_search/rankedtextsearch/MemoryTermVectors" "frequencies" "[[I" .null := D166 (Or.inr (hw _ (List.mem_of_getElem? (i := 34) rfl))) (ty := (.array (.array .int))) (by decide)
      have f174 : Fld Z h166 b2 "com/example/ranked_text_search/rankedtextsearch/MemoryTermVectors" "next" "[I" .null := D166 (Or.inr (hw _ (List.mem_of_getElem? (i := 45) rfl))) (ty := (.array .int)) (by decide)
      have st175 : own_Go p e below (T166.setTop (mkF m 119 #[iv xf, iv xg, .val (.long xt), .second, .val (.long xq), .second, .val (.long xc), .second, iv bg, iv od, iv v_x, iv v_y, iv v_b1, iv v_b2, iv v_f1, iv v_f2, iv v_c, iv v_fc, rv b1, .unset, .unset, .unset, .unset, .unset, .unset, .unset, .unset, .unset] [(.ref b2)])) B0 := fun t kt => st165 t (ls166 t kt)
      have d3 : (xf + 3) - xf = 3 := by grind
      have d1 : (xf + 1) - xf = 1 := by grind
      have d2 : (xf + 2) - xf = 2 := by grind
      have st176 : own_Go p e below (T166.setTop (mkF m 130 #[iv xf, iv xg, .val (.long xt), .second, .val (.long xq), .second, .val (.long xc), .second, iv bg, iv od, iv v_x, iv v_y, iv v_b1, iv v_b2, iv v_f1, iv v_f2, iv v_c, iv v_fc, rv b1, .unset, .unset, .unset, .unset, .unset, .unset, .unset, .unset, .unset] [(.int (xf + (3 : Int32))), (.ref b1), (.int xf), .null, (.ref b2), (.ref b2)])) B0 := fun t kt => st175 t (by
        show own_At p e below T166 m 119 #[iv xf, iv xg, .val (.long xt), .second, .val (.long xq), .second, .val (.long xc), .second, iv bg, iv od, iv v_x, iv v_y, iv v_b1, iv v_b2, iv v_f1, iv v_f2, iv v_c, iv v_fc, rv b1, .unset, .unset, .unset, .unset, .unset, .unset, .unset, .unset, .unset] [(.ref b2)] _
        refine XS.dup X166.here hx rfl (hb hby at_119) rfl rfl ?_
        show own_At p e below T166 m 120 #[iv xf, iv xg, .val (.long xt), .second, .val (.long xq), .second, .val (.long xc), .second, iv bg, iv od, iv v_x, iv v_y, iv v_b1, iv v_b2, iv v_f1, iv v_f2, iv v_c, iv v_fc, rv b1, .unset, .unset, .unset, .unset, .unset, .unset, .unset, .unset, .unset] [(.ref b2), (.ref b2)] _
        refine XS.aconstNull X166.here hx rfl (hb hby at_120) ?_
        show own_At p e below T166 m 121 #[iv xf, iv xg, .val (.long xt), .second, .val (.long xq), .second, .val (.long xc), .second, iv bg, iv od, iv v_x, iv v_y, iv v_b1, iv v_b2, iv v_f1, iv v_f2, iv v_c, iv v_fc, rv b1, .unset, .unset, .unset, .unset, .unset, .unset, .unset, .unset, .unset] [.null, (.ref b2), (.ref b2)] _
        refine X166.checkcastNull hx (g := (mkF m 121 #[iv xf, iv xg, .val (.long xt), .second, .val (.long xq), .second, .val (.long xc), .second, iv bg, iv od, iv v_x, iv v_y, iv v_b1, iv v_b2, iv v_f1, iv v_f2, iv v_c, iv v_fc, rv b1, .unset, .unset, .unset, .unset, .unset, .unset, .unset, .unset, .unset] [.null, (.ref b2), (.ref b2)])) rfl rfl (hb hby at_121) _ ?_
        show own_At p e below T166 m 124 #[iv xf, iv xg, .val (.long xt), .second, .val (.long xq), .second, .val (.long xc), .second, iv bg, iv od, iv v_x, iv v_y, iv v_b1, iv v_b2, iv v_f1, iv v_f2, iv v_c, iv v_fc, rv b1, .unset, .unset, .unset, .unset, .unset, .unset, .unset, .unset, .unset] [.null, (.ref b2), (.ref b2)] _
        refine XS.iloadN X166.here hx rfl (hb hby at_124) rfl ?_
        show own_At p e below T166 m 125 #[iv xf, iv xg, .val (.long xt), .second, .val (.long xq), .second, .val (.long xc), .second, iv bg, iv od, iv v_x, iv v_y, iv v_b1, iv v_b2, iv v_f1, iv v_f2, iv v_c, iv v_fc, rv b1, .unset, .unset, .unset, .unset, .unset, .unset, .unset, .unset, .unset] [(.int xf), .null, (.ref b2), (.ref b2)] _
        refine XS.aload X166.here hx rfl (hb hby at_125) rfl rfl ?_
        show own_At p e below T166 m 127 #[iv xf, iv xg, .val (.long xt), .second, .val (.long xq), .second, .val (.long xc), .second, iv bg, iv od, iv v_x, iv v_y, iv v_b1, iv v_b2, iv v_f1, iv v_f2, iv v_c, iv v_fc, rv b1, .unset, .unset, .unset, .unset, .unset, .unset, .unset, .unset, .unset] [(.ref b1), (.int xf), .null, (.ref b2), (.ref b2)] _
        refine XS.iloadN X166.here hx rfl (hb hby at_127) rfl ?_
        show own_At p e below T166 m 128 #[iv xf, iv xg, .val (.long xt), .second, .val (.long xq), .second, .val (.long xc), .second, iv bg, iv od, iv v_x, iv v_y, iv v_b1, iv v_b2, iv v_f1, iv v_f2, iv v_c, iv v_fc, rv b1, .unset, .unset, .unset, .unset, .unset, .unset, .unset, .unset, .unset] [(.int xf), (.ref b1), (.int xf), .null, (.ref b2), (.ref b2)] _
        refine XS.iconst X166.here hx rfl (hb hby at_128) ?_
        show own_At p e below T166 m 129 #[iv xf, iv xg, .val (.long xt), .second, .val (.long xq), .second, .val (.long xc), .second, iv bg, iv od, iv v_x, iv v_y, iv v_b1, iv v_b2, iv v_f1, iv v_f2, iv v_c, iv v_fc, rv b1, .unset, .unset, .unset, .unset, .unset, .unset, .unset, .unset, .unset] [(.int (3 : Int32)), (.int xf), (.ref b1), (.int xf), .null, (.ref b2), (.ref b2)] _
        refine XS.iadd X166.here hx rfl (hb hby at_129) rfl ?_
        show own_At p e below T166 m 130 #[iv xf, iv xg, .val (.long xt), .second, .val (.long xq), .second, .val (.long xc), .second, iv bg, iv od, iv v_x, iv v_y, iv v_b1, iv v_b2, iv v_f1, iv v_f2, iv v_c, iv v_fc, rv b1, .unset, .unset, .unset, .unset, .unset, .unset, .unset, .unset, .unset] [(.int (xf + (3 : Int32))), (.ref b1), (.int xf), .null, (.ref b2), (.ref b2)] _
        exact kt)
      obtain ⟨_, _, ⟨T177, L177, k177, n177⟩, -, X177, ⟨Lc177, hQ177, l177, y177, z177⟩, ls177⟩ := X166.specialBack hx (y := (⟨"com/example/ranked_text_search/rankedtextsearch/MemoryTermVectors", "<init>", "([Ljava/lang/String;I[II)V"⟩ : MethodName)) rfl hown (mvT hZ (hw _ (List.mem_of_getElem? (i := 11) rfl))) (mvT hZ (hw _ (List.mem_of_getElem? (i := 12) rfl))) (mvT hZ (hw _ (List.mem_of_getElem? (i := 13) rfl))) (by decide) (backOf (W := 1) (rm_init16386 l Z a0 hw [] b2 xf b1 ((xf + (3 : Int32))) ((fun q => if q = 2 then (.int (1 : Int32)) else (fun q => if q = 1 then (.int (2 : Int32)) else (fun q => if q = 0 then (.int (16383 : Int32)) else (fun _ => (.int (0 : Int32))) q) q) q)) h166 n0 z168 f169 f170 f171 f172 f173 f174 A166 g_b2 f167 rfl rfl rfl d3 ((Ne.symm ne_b1_b2))) hZ (hw _ (List.mem_of_getElem? (i := 13) rfl)) (hw _ (List.mem_of_getElem? (i := 10) rfl)) (by decide) (by decide)) (g := (mkF m 130 #[iv xf, iv xg, .val (.long xt), .second, .val (.long xq), .second, .val (.long xc), .second, iv bg, iv od, iv v_x, iv v_y, iv v_b1, iv v_b2, iv v_f1, iv v_f2, iv v_c, iv v_fc, rv b1, .unset, .unset, .unset, .unset, .unset, .unset, .unset, .unset, .unset] [(.int (xf + (3 : Int32))), (.ref b1), (.int xf), .null, (.ref b2), (.ref b2)])) rfl (by rw [hml]; rfl) (Steps.refl _) (a := b2) (argsL := [.null, (.int xf), (.ref b1), (.int (xf + (3 : Int32)))]) (rest := [(.ref b2)]) (lenOf own_pd6 rfl) rfl (by show 2 * 0 + _ ≤ _; exact Nat.le_of_eq rfl) (hb hby at_130) (fun _ _ => ⟨rfl, e166, (by decide : 2 + 8 ≤ _), (by decide : 9 + 32796 ≤ _)⟩)
      dsimp only [Pt.U, Pt.locs, Pt.cells, Pt.slots] at X177 l177 y177 z177 ls177 hQ177
      subst l177 y177 z177
      obtain ⟨rfl, Nq177, Zq177, Vq177⟩ := hQ177
      have N177 := Fr.app N161 Nq177
      have st178 : own_Go p e below (T177.setTop (mkF m 133 #[iv xf, iv xg, .val (.long xt), .second, .val (.long xq), .second, .val (.long xc), .second, iv bg, iv od, iv v_x, iv v_y, iv v_b1, iv v_b2, iv v_f1, iv v_f2, iv v_c, iv v_fc, rv b1, .unset, .unset, .unset, .unset, .unset, .unset, .unset, .unset, .unset] [(.ref b2)])) B0 := fun t kt => st176 t (ls177.trans kt)
      have Eq177 := Vq177.1
      have st179 : own_Go p e below (T177.setTop (mkF m 147 #[iv xf, iv xg, .val (.long xt), .second, .val (.long xq), .second, .val (.long xc), .second, iv bg, iv od, iv v_x, iv v_y, iv v_b1, iv v_b2, iv v_f1, iv v_f2, iv v_c, iv v_fc, rv b1, rv b2, iv (xf + (1 : Int32)), iv (xf + (2 : Int32)), .unset, .unset, .unset, .unset, .unset, .unset] [(.int od)])) B0 := fun t kt => st178 t (by
        show own_At p e below T177 m 133 #[iv xf, iv xg, .val (.long xt), .second, .val (.long xq), .second, .val (.long xc), .second, iv bg, iv od, iv v_x, iv v_y, iv v_b1, iv v_b2, iv v_f1, iv v_f2, iv v_c, iv v_fc, rv b1, .unset, .unset, .unset, .unset, .unset, .unset, .unset, .unset, .unset] [(.ref b2)] _
        refine XS.astore X177.here hx rfl (hb hby at_133) rfl rfl (l' := #[iv xf, iv xg, .val (.long xt), .second, .val (.long xq), .second, .val (.long xc), .second, iv bg, iv od, iv v_x, iv v_y, iv v_b1, iv v_b2, iv v_f1, iv v_f2, iv v_c, iv v_fc, rv b1, rv b2, .unset, .unset, .unset, .unset, .unset, .unset, .unset, .unset]) rfl ?_
        show own_At p e below T177 m 135 #[iv xf, iv xg, .val (.long xt), .second, .val (.long xq), .second, .val (.long xc), .second, iv bg, iv od, iv v_x, iv v_y, iv v_b1, iv v_b2, iv v_f1, iv v_f2, iv v_c, iv v_fc, rv b1, rv b2, .unset, .unset, .unset, .unset, .unset, .unset, .unset, .unset] [] _
        refine XS.iloadN X177.here hx rfl (hb hby at_135) rfl ?_
        show own_At p e below T177 m 136 #[iv xf, iv xg, .val (.long xt), .second, .val (.long xq), .second, .val (.long xc), .second, iv bg, iv od, iv v_x, iv v_y, iv v_b1, iv v_b2, iv v_f1, iv v_f2, iv v_c, iv v_fc, rv b1, rv b2, .unset, .unset, .unset, .unset, .unset, .unset, .unset, .unset] [(.int xf)] _
        refine XS.iconst X177.here hx rfl (hb hby at_136) ?_
        show own_At p e below T177 m 137 #[iv xf, iv xg, .val (.long xt), .second, .val (.long xq), .second, .val (.long xc), .second, iv bg, iv od, iv v_x, iv v_y, iv v_b1, iv v_b2, iv v_f1, iv v_f2, iv v_c, iv v_fc, rv b1, rv b2, .unset, .unset, .unset, .unset, .unset, .unset, .unset, .unset] [(.int (1 : Int32)), (.int xf)] _
        refine XS.iadd X177.here hx rfl (hb hby at_137) rfl ?_
        show own_At p e below T177 m 138 #[iv xf, iv xg, .val (.long xt), .second, .val (.long xq), .second, .val (.long xc), .second, iv bg, iv od, iv v_x, iv v_y, iv v_b1, iv v_b2, iv v_f1, iv v_f2, iv v_c, iv v_fc, rv b1, rv b2, .unset, .unset, .unset, .unset, .unset, .unset, .unset, .unset] [(.int (xf + (1 : Int32)))] _
        refine XS.istore X177.here hx rfl (hb hby at_138) rfl (l' := #[iv xf, iv xg, .val (.long xt), .second, .val (.long xq), .second, .val (.long xc), .second, iv bg, iv od, iv v_x, iv v_y, iv v_b1, iv v_b2, iv v_f1, iv v_f2, iv v_c, iv v_fc, rv b1, rv b2, iv (xf + (1 : Int32)), .unset, .unset, .unset, .unset, .unset, .unset, .unset]) rfl ?_
        show own_At p e below T177 m 140 #[iv xf, iv xg, .val (.long xt), .second, .val (.long xq), .second, .val (.long xc), .second, iv bg, iv od, iv v_x, iv v_y, iv v_b1, iv v_b2, iv v_f1, iv v_f2, iv v_c, iv v_fc, rv b1, rv b2, iv (xf + (1 : Int32)), .unset, .unset, .unset, .unset, .unset, .unset, .unset] [] _
        refine XS.iloadN X177.here hx rfl (hb hby at_140) rfl ?_
        show own_At p e below T177 m 141 #[iv xf, iv xg, .val (.long xt), .second, .val (.long xq), .second, .val (.long xc), .second, iv bg, iv od, iv v_x, iv v_y, iv v_b1, iv v_b2, iv v_f1, iv v_f2, iv v_c, iv v_fc, rv b1, rv b2, iv (xf + (1 : Int32)), .unset, .unset, .unset, .unset, .unset, .unset, .unset] [(.int xf)] _
        refine XS.iconst X177.here hx rfl (hb hby at_141) ?_
        show own_At p e below T177 m 142 #[iv xf, iv xg, .val (.long xt), .second, .val (.long xq), .second, .val (.long xc), .second, iv bg, iv od, iv v_x, iv v_y, iv v_b1, iv v_b2, iv v_f1, iv v_f2, iv v_c, iv v_fc, rv b1, rv b2, iv (xf + (1 : Int32)), .unset, .unset, .unset, .unset, .unset, .unset, .unset] [(.int (2 : Int32)), (.int xf)] _
        refine XS.iadd X177.here hx rfl (hb hby at_142) rfl ?_
        show own_At p e below T177 m 143 #[iv xf, iv xg, .val (.long xt), .second, .val (.long xq), .second, .val (.long xc), .second, iv bg, iv od, iv v_x, iv v_y, iv v_b1, iv v_b2, iv v_f1, iv v_f2, iv v_c, iv v_fc, rv b1, rv b2, iv (xf + (1 : Int32)), .unset, .unset, .unset, .unset, .unset, .unset, .unset] [(.int (xf + (2 : Int32)))] _
        refine XS.istore X177.here hx rfl (hb hby at_143) rfl (l' := #[iv xf, iv xg, .val (.long xt), .second, .val (.long xq), .second, .val (.long xc), .second, iv bg, iv od, iv v_x, iv v_y, iv v_b1, iv v_b2, iv v_f1, iv v_f2, iv v_c, iv v_fc, rv b1, rv b2, iv (xf + (1 : Int32)), iv (xf + (2 : Int32)), .unset, .unset, .unset, .unset, .unset, .unset]) rfl ?_
        show own_At p e below T177 m 145 #[iv xf, iv xg, .val (.long xt), .second, .val (.long xq), .second, .val (.long xc), .second, iv bg, iv od, iv v_x, iv v_y, iv v_b1, iv v_b2, iv v_f1, iv v_f2, iv v_c, iv v_fc, rv b1, rv b2, iv (xf + (1 : Int32)), iv (xf + (2 : Int32)), .unset, .unset, .unset, .unset, .unset, .unset] [] _
        refine XS.iload X177.here hx rfl (hb hby at_145) rfl ?_
        show own_At p e below T177 m 147 #[iv xf, iv xg, .val (.long xt), .second, .val (.long xq), .second, .val (.long xc), .second, iv bg, iv od, iv v_x, iv v_y, iv v_b1, iv v_b2, iv v_f1, iv v_f2, iv v_c, iv v_fc, rv b1, rv b2, iv (xf + (1 : Int32)), iv (xf + (2 : Int32)), .unset, .unset, .unset, .unset, .unset, .unset] [(.int od)] _
        exact kt)
      obtain ⟨T180, L180, X180, N180, Z180, Vj, st180⟩ : ∃ (T180 : State) (L' : List Loc), Stand p l e room_1 s m #[(.int xf), (.int xg), (.long xt), (.long xq), (.long xc)] below meth c T180 L' 10 32805 ∧ Fr n0 L' ∧ n0 ≤ T180.heap.size ∧ (own_VB Z T180.heap n0 b2 xf (fun q => if q = 1 then 16385 else if q = 2 then 16386 else own_st 16383 16385 16386 q) (fun q => if q = 16383 then v_b1 else if q = 16384 then v_b2 else if q = 16385 then v_c else 0) (fun q => if q = 16383 then v_f1 else if q = 16384 then v_f2 else if q = 16385 then v_fc else 0)) ∧ own_Go p e below (T180.setTop (mkF m 261 #[iv xf, iv xg, .val (.long xt), .second, .val (.long xq), .second, .val (.long xc), .second, iv bg, iv od, iv v_x, iv v_y, iv v_b1, iv v_b2, iv v_f1, iv v_f2, iv v_c, iv v_fc, rv b1, rv b2, iv (xf + (1 : Int32)), iv (xf + (2 : Int32)), .unset, .unset, .unset, .unset, .unset, .unset] [])) B0 := by
        by_cases q3 : od = (0 : Int32)
        · have st181 : own_Go p e below (T177.setTop (mkF m 158 #[iv xf, iv xg, .val (.long xt), .second, .val (.long xq), .second, .val (.long xc), .second, iv bg, iv od, iv v_x, iv v_y, iv v_b1, iv v_b2, iv v_f1, iv v_f2, iv v_c, iv v_fc, rv b1, rv b2, iv (xf + (1 : Int32)), iv (xf + (2 : Int32)), .unset, .unset, .unset, .unset, .unset, .unset] [(.int v_f1), (.int (xf + (1 : Int32))), (.int v_b1), (.ref b2)])) B0 := fun t kt => st179 t (by
            show own_At p e below T177 m 147 #[iv xf, iv xg, .val (.long xt), .second, .val (.long xq), .second, .val (.long xc), .second, iv bg, iv od, iv v_x, iv v_y, iv v_b1, iv v_b2, iv v_f1, iv v_f2, iv v_c, iv v_fc, rv b1, rv b2, iv (xf + (1 : Int32)), iv (xf + (2 : Int32)), .unset, .unset, .unset, .unset, .unset, .unset] [(.int od)] _
            refine XS.ifNo X177.here hx rfl (hb hby at_147) rfl ((if0 _ _).trans (teq q3).2) ?_
            show own_At p e below T177 m 150 #[iv xf, iv xg, .val (.long xt), .second, .val (.long xq), .second, .val (.long xc), .second, iv bg, iv od, iv v_x, iv v_y, iv v_b1, iv v_b2, iv v_f1, iv v_f2, iv v_c, iv v_fc, rv b1, rv b2, iv (xf + (1 : Int32)), iv (xf + (2 : Int32)), .unset, .unset, .unset, .unset, .unset, .unset] [] _
            refine XS.aload X177.here hx rfl (hb hby at_150) rfl rfl ?_
            show own_At p e below T177 m 152 #[iv xf, iv xg, .val (.long xt), .second, .val (.long xq), .second, .val (.long xc), .second, iv bg, iv od, iv v_x, iv v_y, iv v_b1, iv v_b2, iv v_f1, iv v_f2, iv v_c, iv v_fc, rv b1, rv b2, iv (xf + (1 : Int32)), iv (xf + (2 : Int32)), .unset, .unset, .unset, .unset, .unset, .unset] [(.ref b2)] _
            refine XS.iload X177.here hx rfl (hb hby at_152) rfl ?_
            show own_At p e below T177 m 154 #[iv xf, iv xg, .val (.long xt), .second, .val (.long xq), .second, .val (.long xc), .second, iv bg, iv od, iv v_x, iv v_y, iv v_b1, iv v_b2, iv v_f1, iv v_f2, iv v_c, iv v_fc, rv b1, rv b2, iv (xf + (1 : Int32)), iv (xf + (2 : Int32)), .unset, .unset, .unset, .unset, .unset, .unset] [(.int v_b1), (.ref b2)] _
            refine XS.iload X177.here hx rfl (hb hby at_154) rfl ?_
            show own_At p e below T177 m 156 #[iv xf, iv xg, .val (.long xt), .second, .val (.long xq), .second, .val (.long xc), .second, iv bg, iv od, iv v_x, iv v_y, iv v_b1, iv v_b2, iv v_f1, iv v_f2, iv v_c, iv v_fc, rv b1, rv b2, iv (xf + (1 : Int32)), iv (xf + (2 : Int32)), .unset, .unset, .unset, .unset, .unset, .unset] [(.int (xf + (1 : Int32))), (.int v_b1), (.ref b2)] _
            refine XS.iload X177.here hx rfl (hb hby at_156) rfl ?_
            show own_At p e below T177 m 158 #[iv xf, iv xg, .val (.long xt), .second, .val (.long xq), .second, .val (.long xc), .second, iv bg, iv od, iv v_x, iv v_y, iv v_b1, iv v_b2, iv v_f1, iv v_f2, iv v_c, iv v_fc, rv b1, rv b2, iv (xf + (1 : Int32)), iv (xf + (2 : Int32)), .unset, .unset, .unset, .unset, .unset, .unset] [(.int v_f1), (.int (xf + (1 : Int32))), (.int v_b1), (.ref b2)] _
            exact kt)
          obtain ⟨cq182, kq182, q182a, q182b, q182c⟩ := isOf hZ rfl Eq177
          obtain ⟨_, _, ⟨T182, L182, k182, n182⟩, -, X182, ⟨Lc182, hQ182, l182, y182, z182⟩, ls182⟩ := X177.virtualBack hx (y := (⟨"com/example/ranked_text_search/rankedtextsearch/MemoryTermVectors", "add", "(III)V"⟩ : MethodName)) (z := (⟨"com/example/ranked_text_search/rankedtextsearch/MemoryTermVectors", "add", "(III)V"⟩ : MethodName)) hown (mvT hZ (hw _ (List.mem_of_getElem? (i := 46) rfl))) (mvT hZ (hw _ (List.mem_of_getElem? (i := 47) rfl))) (notFace_of_selects (args := #[]) (mvT hZ (hw _ (List.mem_of_getElem? (i := 49) rfl)))) (mvT hZ (hw _ (List.mem_of_getElem? (i := 49) rfl))) (mvT hZ (hw _ (List.mem_of_getElem? (i := 48) rfl))) (by decide) (backOf (W := 0) (rm_add_1_16383 l Z a0 hw [] b2 v_b1 ((xf + (1 : Int32))) v_f1 xf ((own_st 16383 16385 16386)) ((fun _ => (0 : Int32))) ((fun _ => (0 : Int32))) T177.heap n0 Zq177 Vq177 d1 rfl) hZ (hw _ (List.mem_of_getElem? (i := 50) rfl)) (hw _ (List.mem_of_getElem? (i := 10) rfl)) (by decide) (by decide)) q182a q182c (g := (mkF m 158 #[iv xf, iv xg, .val (.long xt), .second, .val (.long xq), .second, .val (.long xc), .second, iv bg, iv od, iv v_x, iv v_y, iv v_b1, iv v_b2, iv v_f1, iv v_f2, iv v_c, iv v_fc, rv b1, rv b2, iv (xf + (1 : Int32)), iv (xf + (2 : Int32)), .unset, .unset, .unset, .unset, .unset, .unset] [(.int v_f1), (.int (xf + (1 : Int32))), (.int v_b1), (.ref b2)])) rfl (by rw [hml]; rfl) (Steps.refl _) (argsL := [(.int v_b1), (.int (xf + (1 : Int32))), (.int v_f1)]) (rest := []) (lenOf own_pd7 rfl) rfl (by show 2 * 0 + _ ≤ _; exact Nat.le_of_eq rfl) (hb hby at_158) (fun _ _ => ⟨rfl, rfl, (by decide : 10 + 0 ≤ _), (by decide : 32805 + 0 ≤ _)⟩)
          dsimp only [Pt.U, Pt.locs, Pt.cells, Pt.slots] at X182 l182 y182 z182 ls182 hQ182
          subst l182 y182 z182
          obtain ⟨rfl, Nq182, Zq182, Vq182⟩ := hQ182
          have N182 := Fr.app N177 Nq182
          have st183 : own_Go p e below (T182.setTop (mkF m 161 #[iv xf, iv xg, .val (.long xt), .second, .val (.long xq), .second, .val (.long xc), .second, iv bg, iv od, iv v_x, iv v_y, iv v_b1, iv v_b2, iv v_f1, iv v_f2, iv v_c, iv v_fc, rv b1, rv b2, iv (xf + (1 : Int32)), iv (xf + (2 : Int32)), .unset, .unset, .unset, .unset, .unset, .unset] [])) B0 := fun t kt => st181 t (ls182.trans kt)
          have Eq182 := Vq182.1
          have st184 : own_Go p e below (T182.setTop (mkF m 169 #[iv xf, iv xg, .val (.long xt), .second, .val (.long xq), .second, .val (.long xc), .second, iv bg, iv od, iv v_x, iv v_y, iv v_b1, iv v_b2, iv v_f1, iv v_f2, iv v_c, iv v_fc, rv b1, rv b2, iv (xf + (1 : Int32)), iv (xf + (2 : Int32)), .unset, .unset, .unset, .unset, .unset, .unset] [(.int v_f2), (.int (xf + (1 : Int32))), (.int v_b2), (.ref b2)])) B0 := fun t kt => st183 t (by
            show own_At p e below T182 m 161 #[iv xf, iv xg, .val (.long xt), .second, .val (.long xq), .second, .val (.long xc), .second, iv bg, iv od, iv v_x, iv v_y, iv v_b1, iv v_b2, iv v_f1, iv v_f2, iv v_c, iv v_fc, rv b1, rv b2, iv (xf + (1 : Int32)), iv (xf + (2 : Int32)), .unset, .unset, .unset, .unset, .unset, .unset] [] _
            refine XS.aload X182.here hx rfl (hb hby at_161) rfl rfl ?_
            show own_At p e below T182 m 163 #[iv xf, iv xg, .val (.long xt), .second, .val (.long xq), .second, .val (.long xc), .second, iv bg, iv od, iv v_x, iv v_y, iv v_b1, iv v_b2, iv v_f1, iv v_f2, iv v_c, iv v_fc, rv b1, rv b2, iv (xf + (1 : Int32)), iv (xf + (2 : Int32)), .unset, .unset, .unset, .unset, .unset, .unset] [(.ref b2)] _
            refine XS.iload X182.here hx rfl (hb hby at_163) rfl ?_
            show own_At p e below T182 m 165 #[iv xf, iv xg, .val (.long xt), .second, .val (.long xq), .second, .val (.long xc), .second, iv bg, iv od, iv v_x, iv v_y, iv v_b1, iv v_b2, iv v_f1, iv v_f2, iv v_c, iv v_fc, rv b1, rv b2, iv (xf + (1 : Int32)), iv (xf + (2 : Int32)), .unset, .unset, .unset, .unset, .unset, .unset] [(.int v_b2), (.ref b2)] _
            refine XS.iload X182.here hx rfl (hb hby at_165) rfl ?_
            show own_At p e below T182 m 167 #[iv xf, iv xg, .val (.long xt), .second, .val (.long xq), .second, .val (.long xc), .second, iv bg, iv od, iv v_x, iv v_y, iv v_b1, iv v_b2, iv v_f1, iv v_f2, iv v_c, iv v_fc, rv b1, rv b2, iv (xf + (1 : Int32)), iv (xf + (2 : Int32)), .unset, .unset, .unset, .unset, .unset, .unset] [(.int (xf + (1 : Int32))), (.int v_b2), (.ref b2)] _
            refine XS.iload X182.here hx rfl (hb hby at_167) rfl ?_
            show own_At p e below T182 m 169 #[iv xf, iv xg, .val (.long xt), .second, .val (.long xq), .second, .val (.long xc), .second, iv bg, iv od, iv v_x, iv v_y, iv v_b1, iv v_b2, iv v_f1, iv v_f2, iv v_c, iv v_fc, rv b1, rv b2, iv (xf + (1 : Int32)), iv (xf + (2 : Int32)), .unset, .unset, .unset, .unset, .unset, .unset] [(.int v_f2), (.int (xf + (1 : Int32))), (.int v_b2), (.ref b2)] _
            exact kt)
          obtain ⟨cq185, kq185, q185a, q185b, q185c⟩ := isOf hZ rfl Eq182
          obtain ⟨_, _, ⟨T185, L185, k185, n185⟩, -, X185, ⟨Lc185, hQ185, l185, y185, z185⟩, ls185⟩ := X182.virtualBack hx (y := (⟨"com/example/ranked_text_search/rankedtextsearch/MemoryTermVectors", "add", "(III)V"⟩ : MethodName)) (z := (⟨"com/example/ranked_text_search/rankedtextsearch/MemoryTermVectors", "add", "(III)V"⟩ : MethodName)) hown (mvT hZ (hw _ (List.mem_of_getElem? (i := 46) rfl))) (mvT hZ (hw _ (List.mem_of_getElem? (i := 47) rfl))) (notFace_of_selects (args := #[]) (mvT hZ (hw _ (List.mem_of_getElem? (i := 49) rfl)))) (mvT hZ (hw _ (List.mem_of_getElem? (i := 49) rfl))) (mvT hZ (hw _ (List.mem_of_getElem? (i := 48) rfl))) (by decide) (backOf (W := 0) (rm_add_1_16384 l Z a0 hw [] b2 v_b2 ((xf + (1 : Int32))) v_f2 xf ((fun q => if q = 1 then 16384 else (own_st 16383 16385 16386) q)) ((fun q => if q = 16383 then v_b1 else (fun _ => (0 : Int32)) q)) ((fun q => if q = 16383 then v_f1 else (fun _ => (0 : Int32)) q)) T182.heap n0 Zq182 Vq182 d1 rfl) hZ (hw _ (List.mem_of_getElem? (i := 50) rfl)) (hw _ (List.mem_of_getElem? (i := 10) rfl)) (by decide) (by decide)) q185a q185c (g := (mkF m 169 #[iv xf, iv xg, .val (.long xt), .second, .val (.long xq), .second, .val (.long xc), .second, iv bg, iv od, iv v_x, iv v_y, iv v_b1, iv v_b2, iv v_f1, iv v_f2, iv v_c, iv v_fc, rv b1, rv b2, iv (xf + (1 : Int32)), iv (xf + (2 : Int32)), .unset, .unset, .unset, .unset, .unset, .unset] [(.int v_f2), (.int (xf + (1 : Int32))), (.int v_b2), (.ref b2)])) rfl (by rw [hml]; rfl) (Steps.refl _) (argsL := [(.int v_b2), (.int (xf + (1 : Int32))), (.int v_f2)]) (rest := []) (lenOf own_pd7 rfl) rfl (by show 2 * 0 + _ ≤ _; exact Nat.le_of_eq rfl) (hb hby at_169) (fun _ _ => ⟨rfl, rfl, (by decide : 10 + 0 ≤ _), (by decide : 32805 + 0 ≤ _)⟩)
          dsimp only [Pt.U, Pt.locs, Pt.cells, Pt.slots] at X185 l185 y185 z185 ls185 hQ185
          subst l185 y185 z185
          obtain ⟨rfl, Nq185, Zq185, Vq185⟩ := hQ185
          have N185 := Fr.app N182 Nq185
          have st186 : own_Go p e below (T185.setTop (mkF m 172 #[iv xf, iv xg, .val (.long xt), .second, .val (.long xq), .second, .val (.long xc), .second, iv bg, iv od, iv v_x, iv v_y, iv v_b1, iv v_b2, iv v_f1, iv v_f2, iv v_c, iv v_fc, rv b1, rv b2, iv (xf + (1 : Int32)), iv (xf + (2 : Int32)), .unset, .unset, .unset, .unset, .unset, .unset] [])) B0 := fun t kt => st184 t (ls185.trans kt)
          have Eq185 := Vq185.1
          have st187 : own_Go p e below (T185.setTop (mkF m 180 #[iv xf, iv xg, .val (.long xt), .second, .val (.long xq), .second, .val (.long xc), .second, iv bg, iv od, iv v_x, iv v_y, iv v_b1, iv v_b2, iv v_f1, iv v_f2, iv v_c, iv v_fc, rv b1, rv b2, iv (xf + (1 : Int32)), iv (xf + (2 : Int32)), .unset, .unset, .unset, .unset, .unset, .unset] [(.int v_fc), (.int (xf + (2 : Int32))), (.int v_c), (.ref b2)])) B0 := fun t kt => st186 t (by
            show own_At p e below T185 m 172 #[iv xf, iv xg, .val (.long xt), .second, .val (.long xq), .second, .val (.long xc), .second, iv bg, iv od, iv v_x, iv v_y, iv v_b1, iv v_b2, iv v_f1, iv v_f2, iv v_c, iv v_fc, rv b1, rv b2, iv (xf + (1 : Int32)), iv (xf + (2 : Int32)), .unset, .unset, .unset, .unset, .unset, .unset] [] _
            refine XS.aload X185.here hx rfl (hb hby at_172) rfl rfl ?_
            show own_At p e below T185 m 174 #[iv xf, iv xg, .val (.long xt), .second, .val (.long xq), .second, .val (.long xc), .second, iv bg, iv od, iv v_x, iv v_y, iv v_b1, iv v_b2, iv v_f1, iv v_f2, iv v_c, iv v_fc, rv b1, rv b2, iv (xf + (1 : Int32)), iv (xf + (2 : Int32)), .unset, .unset, .unset, .unset, .unset, .unset] [(.ref b2)] _
            refine XS.iload X185.here hx rfl (hb hby at_174) rfl ?_
            show own_At p e below T185 m 176 #[iv xf, iv xg, .val (.long xt), .second, .val (.long xq), .second, .val (.long xc), .second, iv bg, iv od, iv v_x, iv v_y, iv v_b1, iv v_b2, iv v_f1, iv v_f2, iv v_c, iv v_fc, rv b1, rv b2, iv (xf + (1 : Int32)), iv (xf + (2 : Int32)), .unset, .unset, .unset, .unset, .unset, .unset] [(.int v_c), (.ref b2)] _
            refine XS.iload X185.here hx rfl (hb hby at_176) rfl ?_
            show own_At p e below T185 m 178 #[iv xf, iv xg, .val (.long xt), .second, .val (.long xq), .second, .val (.long xc), .second, iv bg, iv od, iv v_x, iv v_y, iv v_b1, iv v_b2, iv v_f1, iv v_f2, iv v_c, iv v_fc, rv b1, rv b2, iv (xf + (1 : Int32)), iv (xf + (2 : Int32)), .unset, .unset, .unset, .unset, .unset, .unset] [(.int (xf + (2 : Int32))), (.int v_c), (.ref b2)] _
            refine XS.iload X185.here hx rfl (hb hby at_178) rfl ?_
            show own_At p e below T185 m 180 #[iv xf, iv xg, .val (.long xt), .second, .val (.long xq), .second, .val (.long xc), .second, iv bg, iv od, iv v_x, iv v_y, iv v_b1, iv v_b2, iv v_f1, iv v_f2, iv v_c, iv v_fc, rv b1, rv b2, iv (xf + (1 : Int32)), iv (xf + (2 : Int32)), .unset, .unset, .unset, .unset, .unset, .unset] [(.int v_fc), (.int (xf + (2 : Int32))), (.int v_c), (.ref b2)] _
            exact kt)
          obtain ⟨cq188, kq188, q188a, q188b, q188c⟩ := isOf hZ rfl Eq185
          obtain ⟨_, _, ⟨T188, L188, k188, n188⟩, -, X188, ⟨Lc188, hQ188, l188, y188, z188⟩, ls188⟩ := X185.virtualBack hx (y := (⟨"com/example/ranked_text_search/rankedtextsearch/MemoryTermVectors", "add", "(III)V"⟩ : MethodName)) (z := (⟨"com/example/ranked_text_search/rankedtextsearch/MemoryTermVectors", "add", "(III)V"⟩ : MethodName)) hown (mvT hZ (hw _ (List.mem_of_getElem? (i := 46) rfl))) (mvT hZ (hw _ (List.mem_of_getElem? (i := 47) rfl))) (notFace_of_selects (args := #[]) (mvT hZ (hw _ (List.mem_of_getElem? (i := 49) rfl)))) (mvT hZ (hw _ (List.mem_of_getElem? (i := 49) rfl))) (mvT hZ (hw _ (List.mem_of_getElem? (i := 48) rfl))) (by decide) (backOf (W := 0) (rm_add_2_16385 l Z a0 hw [] b2 v_c ((xf + (2 : Int32))) v_fc xf ((fun q => if q = 1 then 16385 else (fun q => if q = 1 then 16384 else (own_st 16383 16385 16386) q) q)) ((fun q => if q = 16384 then v_b2 else (fun q => if q = 16383 then v_b1 else (fun _ => (0 : Int32)) q) q)) ((fun q => if q = 16384 then v_f2 else (fun q => if q = 16383 then v_f1 else (fun _ => (0 : Int32)) q) q)) T185.heap n0 Zq185 Vq185 d2 rfl) hZ (hw _ (List.mem_of_getElem? (i := 50) rfl)) (hw _ (List.mem_of_getElem? (i := 10) rfl)) (by decide) (by decide)) q188a q188c (g := (mkF m 180 #[iv xf, iv xg, .val (.long xt), .second, .val (.long xq), .second, .val (.long xc), .second, iv bg, iv od, iv v_x, iv v_y, iv v_b1, iv v_b2, iv v_f1, iv v_f2, iv v_c, iv v_fc, rv b1, rv b2, iv (xf + (1 : Int32)), iv (xf + (2 : Int32)), .unset, .unset, .unset, .unset, .unset, .unset] [(.int v_fc), (.int (xf + (2 : Int32))), (.int v_c), (.ref b2)])) rfl (by rw [hml]; rfl) (Steps.refl _) (argsL := [(.int v_c), (.int (xf + (2 : Int32))), (.int v_fc)]) (rest := []) (lenOf own_pd7 rfl) rfl (by show 2 * 0 + _ ≤ _; exact Nat.le_of_eq rfl) (hb hby at_180) (fun _ _ => ⟨rfl, rfl, (by decide : 10 + 0 ≤ _), (by decide : 32805 + 0 ≤ _)⟩)
          dsimp only [Pt.U, Pt.locs, Pt.cells, Pt.slots] at X188 l188 y188 z188 ls188 hQ188
          subst l188 y188 z188
          obtain ⟨rfl, Nq188, Zq188, Vq188⟩ := hQ188
          have N188 := Fr.app N185 Nq188
          have st189 : own_Go p e below (T188.setTop (mkF m 183 #[iv xf, iv xg, .val (.long xt), .second, .val (.long xq), .second, .val (.long xc), .second, iv bg, iv od, iv v_x, iv v_y, iv v_b1, iv v_b2, iv v_f1, iv v_f2, iv v_c, iv v_fc, rv b1, rv b2, iv (xf + (1 : Int32)), iv (xf + (2 : Int32)), .unset, .unset, .unset, .unset, .unset, .unset] [])) B0 := fun t kt => st187 t (ls188.trans kt)
          have Eq188 := Vq188.1
          have st190 : own_Go p e below (T188.setTop (mkF m 261 #[iv xf, iv xg, .val (.long xt), .second, .val (.long xq), .second, .val (.long xc), .second, iv bg, iv od, iv v_x, iv v_y, iv v_b1, iv v_b2, iv v_f1, iv v_f2, iv v_c, iv v_fc, rv b1, rv b2, iv (xf + (1 : Int32)), iv (xf + (2 : Int32)), .unset, .unset, .unset, .unset, .unset, .unset] [])) B0 := fun t kt => st189 t (by
            show own_At p e below T188 m 183 #[iv xf, iv xg, .val (.long xt), .second, .val (.long xq), .second, .val (.long xc), .second, iv bg, iv od, iv v_x, iv v_y, iv v_b1, iv v_b2, iv v_f1, iv v_f2, iv v_c, iv v_fc, rv b1, rv b2, iv (xf + (1 : Int32)), iv (xf + (2 : Int32)), .unset, .unset, .unset, .unset, .unset, .unset] [] _
            refine XS.goto X188.here hx rfl (pc0 := 183) (pc' := 261) rfl (hb hby at_183) (by decide) (by decide) ?_
            show own_At p e below T188 m 261 #[iv xf, iv xg, .val (.long xt), .second, .val (.long xq), .second, .val (.long xc), .second, iv bg, iv od, iv v_x, iv v_y, iv v_b1, iv v_b2, iv v_f1, iv v_f2, iv v_c, iv v_fc, rv b1, rv b2, iv (xf + (1 : Int32)), iv (xf + (2 : Int32)), .unset, .unset, .unset, .unset, .unset, .unset] [] _
            exact kt)
          exact ⟨_, _, X188.more (by decide) (by decide), N188, Zq188, Vq188.to (fun q => by
              (try dsimp only [own_st])
              (repeat' split) <;> first | rfl | omega) (fun q => by
              (try dsimp only [own_st])
              (repeat' split) <;> first | rfl | omega) (fun q => by
              (try dsimp only [own_st])
              (repeat' split) <;> first | rfl | omega), st190⟩
        · have st191 : own_Go p e below (T177.setTop (mkF m 189 #[iv xf, iv xg, .val (.long xt), .second, .val (.long xq), .second, .val (.long xc), .second, iv bg, iv od, iv v_x, iv v_y, iv v_b1, iv v_b2, iv v_f1, iv v_f2, iv v_c, iv v_fc, rv b1, rv b2, iv (xf + (1 : Int32)), iv (xf + (2 : Int32)), .unset, .unset, .unset, .unset, .unset, .unset] [(.int (1 : Int32)), (.int od)])) B0 := fun t kt => st179 t (by
            show own_At p e below T177 m 147 #[iv xf, iv xg, .val (.long xt), .second, .val (.long xq), .second, .val (.long xc), .second, iv bg, iv od, iv v_x, iv v_y, iv v_b1, iv v_b2, iv v_f1, iv v_f2, iv v_c, iv v_fc, rv b1, rv b2, iv (xf + (1 : Int32)), iv (xf + (2 : Int32)), .unset, .unset, .unset, .unset, .unset, .unset] [(.int od)] _
            refine XS.ifYes X177.here hx rfl (pc0 := 147) (pc' := 186) rfl (hb hby at_147) rfl ((if0 _ _).trans (feq q3).2) (by decide) (by decide) ?_
            show own_At p e below T177 m 186 #[iv xf, iv xg, .val (.long xt), .second, .val (.long xq), .second, .val (.long xc), .second, iv bg, iv od, iv v_x, iv v_y, iv v_b1, iv v_b2, iv v_f1, iv v_f2, iv v_c, iv v_fc, rv b1, rv b2, iv (xf + (1 : Int32)), iv (xf + (2 : Int32)), .unset, .unset, .unset, .unset, .unset, .unset] [] _
            refine XS.iload X177.here hx rfl (hb hby at_186) rfl ?_
            show own_At p e below T177 m 188 #[iv xf, iv xg, .val (.long xt), .second, .val (.long xq), .second, .val (.long xc), .second, iv bg, iv od, iv v_x, iv v_y, iv v_b1, iv v_b2, iv v_f1, iv v_f2, iv v_c, iv v_fc, rv b1, rv b2, iv (xf + (1 : Int32)), iv (xf + (2 : Int32)), .unset, .unset, .unset, .unset, .unset, .unset] [(.int od)] _
            refine XS.iconst X177.here hx rfl (hb hby at_188) ?_
            show own_At p e below T177 m 189 #[iv xf, iv xg, .val (.long xt), .second, .val (.long xq), .second, .val (.long xc), .second, iv bg, iv od, iv v_x, iv v_y, iv v_b1, iv v_b2, iv v_f1, iv v_f2, iv v_c, iv v_fc, rv b1, rv b2, iv (xf + (1 : Int32)), iv (xf + (2 : Int32)), .unset, .unset, .unset, .unset, .unset, .unset] [(.int (1 : Int32)), (.int od)] _
            exact kt)
          by_cases q4 : od = (1 : Int32)
          · have st192 : own_Go p e below (T177.setTop (mkF m 200 #[iv xf, iv xg, .val (.long xt), .second, .val (.long xq), .second, .val (.long xc), .second, iv bg, iv od, iv v_x, iv v_y, iv v_b1, iv v_b2, iv v_f1, iv v_f2, iv v_c, iv v_fc, rv b1, rv b2, iv (xf + (1 : Int32)), iv (xf + (2 : Int32)), .unset, .unset, .unset, .unset, .unset, .unset] [(.int v_f1), (.int (xf + (1 : Int32))), (.int v_b1), (.ref b2)])) B0 := fun t kt => st191 t (by
              show own_At p e below T177 m 189 #[iv xf, iv xg, .val (.long xt), .second, .val (.long xq), .second, .val (.long xc), .second, iv bg, iv od, iv v_x, iv v_y, iv v_b1, iv v_b2, iv v_f1, iv v_f2, iv v_c, iv v_fc, rv b1, rv b2, iv (xf + (1 : Int32)), iv (xf + (2 : Int32)), .unset, .unset, .unset, .unset, .unset, .unset] [(.int (1 : Int32)), (.int od)] _
              refine XS.icmpNo X177.here hx rfl (hb hby at_189) rfl (teq q4).2 ?_
              show own_At p e below T177 m 192 #[iv xf, iv xg, .val (.long xt), .second, .val (.long xq), .second, .val (.long xc), .second, iv bg, iv od, iv v_x, iv v_y, iv v_b1, iv v_b2, iv v_f1, iv v_f2, iv v_c, iv v_fc, rv b1, rv b2, iv (xf + (1 : Int32)), iv (xf + (2 : Int32)), .unset, .unset, .unset, .unset, .unset, .unset] [] _
              refine XS.aload X177.here hx rfl (hb hby at_192) rfl rfl ?_
              show own_At p e below T177 m 194 #[iv xf, iv xg, .val (.long xt), .second, .val (.long xq), .second, .val (.long xc), .second, iv bg, iv od, iv v_x, iv v_y, iv v_b1, iv v_b2, iv v_f1, iv v_f2, iv v_c, iv v_fc, rv b1, rv b2, iv (xf + (1 : Int32)), iv (xf + (2 : Int32)), .unset, .unset, .unset, .unset, .unset, .unset] [(.ref b2)] _
              refine XS.iload X177.here hx rfl (hb hby at_194) rfl ?_
              show own_At p e below T177 m 196 #[iv xf, iv xg, .val (.long xt), .second, .val (.long xq), .second, .val (.long xc), .second, iv bg, iv od, iv v_x, iv v_y, iv v_b1, iv v_b2, iv v_f1, iv v_f2, iv v_c, iv v_fc, rv b1, rv b2, iv (xf + (1 : Int32)), iv (xf + (2 : Int32)), .unset, .unset, .unset, .unset, .unset, .unset] [(.int v_b1), (.ref b2)] _
              refine XS.iload X177.here hx rfl (hb hby at_196) rfl ?_
              show own_At p e below T177 m 198 #[iv xf, iv xg, .val (.long xt), .second, .val (.long xq), .second, .val (.long xc), .second, iv bg, iv od, iv v_x, iv v_y, iv v_b1, iv v_b2, iv v_f1, iv v_f2, iv v_c, iv v_fc, rv b1, rv b2, iv (xf + (1 : Int32)), iv (xf + (2 : Int32)), .unset, .unset, .unset, .unset, .unset, .unset] [(.int (xf + (1 : Int32))), (.int v_b1), (.ref b2)] _
              refine XS.iload X177.here hx rfl (hb hby at_198) rfl ?_
              show own_At p e below T177 m 200 #[iv xf, iv xg, .val (.long xt), .second, .val (.long xq), .second, .val (.long xc), .second, iv bg, iv od, iv v_x, iv v_y, iv v_b1, iv v_b2, iv v_f1, iv v_f2, iv v_c, iv v_fc, rv b1, rv b2, iv (xf + (1 : Int32)), iv (xf + (2 : Int32)), .unset, .unset, .unset, .unset, .unset, .unset] [(.int v_f1), (.int (xf + (1 : Int32))), (.int v_b1), (.ref b2)] _
              exact kt)
            obtain ⟨cq193, kq193, q193a, q193b, q193c⟩ := isOf hZ rfl Eq177
            obtain ⟨_, _, ⟨T193, L193, k193, n193⟩, -, X193, ⟨Lc193, hQ193, l193, y193, z193⟩, ls193⟩ := X177.virtualBack hx (y := (⟨"com/example/ranked_text_search/rankedtextsearch/MemoryTermVectors", "add", "(III)V"⟩ : MethodName)) (z := (⟨"com/example/ranked_text_search/rankedtextsearch/MemoryTermVectors", "add", "(III)V"⟩ : MethodName)) hown (mvT hZ (hw _ (List.mem_of_getElem? (i := 46) rfl))) (mvT hZ (hw _ (List.mem_of_getElem? (i := 47) rfl))) (notFace_of_selects (args := #[]) (mvT hZ (hw _ (List.mem_of_getElem? (i := 49) rfl)))) (mvT hZ (hw _ (List.mem_of_getElem? (i := 49) rfl))) (mvT hZ (hw _ (List.mem_of_getElem? (i := 48) rfl))) (by decide) (backOf (W := 0) (rm_add_1_16383 l Z a0 hw [] b2 v_b1 ((xf + (1 : Int32))) v_f1 xf ((own_st 16383 16385 16386)) ((fun _ => (0 : Int32))) ((fun _ => (0 : Int32))) T177.heap n0 Zq177 Vq177 d1 rfl) hZ (hw _ (List.mem_of_getElem? (i := 50) rfl)) (hw _ (List.mem_of_getElem? (i := 10) rfl)) (by decide) (by decide)) q193a q193c (g := (mkF m 200 #[iv xf, iv xg, .val (.long xt), .second, .val (.long xq), .second, .val (.long xc), .second, iv bg, iv od, iv v_x, iv v_y, iv v_b1, iv v_b2, iv v_f1, iv v_f2, iv v_c, iv v_fc, rv b1, rv b2, iv (xf + (1 : Int32)), iv (xf + (2 : Int32)), .unset, .unset, .unset, .unset, .unset, .unset] [(.int v_f1), (.int (xf + (1 : Int32))), (.int v_b1), (.ref b2)])) rfl (by rw [hml]; rfl) (Steps.refl _) (argsL := [(.int v_b1), (.int (xf + (1 : Int32))), (.int v_f1)]) (rest := []) (lenOf own_pd7 rfl) rfl (by show 2 * 0 + _ ≤ _; exact Nat.le_of_eq rfl) (hb hby at_200) (fun _ _ => ⟨rfl, rfl, (by decide : 10 + 0 ≤ _), (by decide : 32805 + 0 ≤ _)⟩)
            dsimp only [Pt.U, Pt.locs, Pt.cells, Pt.slots] at X193 l193 y193 z193 ls193 hQ193
            subst l193 y193 z193
            obtain ⟨rfl, Nq193, Zq193, Vq193⟩ := hQ193
            have N193 := Fr.app N177 Nq193
            have st194 : own_Go p e below (T193.setTop (mkF m 203 #[iv xf, iv xg, .val (.long xt), .second, .val (.long xq), .second, .val (.long xc), .second, iv bg, iv od, iv v_x, iv v_y, iv v_b1, iv v_b2, iv v_f1, iv v_f2, iv v_c, iv v_fc, rv b1, rv b2, iv (xf + (1 : Int32)), iv (xf + (2 : Int32)), .unset, .unset, .unset, .unset, .unset, .unset] [])) B0 := fun t kt => st192 t (ls193.trans kt)
            have Eq193 := Vq193.1
            have st195 : own_Go p e below (T193.setTop (mkF m 211 #[iv xf, iv xg, .val (.long xt), .second, .val (.long xq), .second, .val (.long xc), .second, iv bg, iv od, iv v_x, iv v_y, iv v_b1, iv v_b2, iv v_f1, iv v_f2, iv v_c, iv v_fc, rv b1, rv b2, iv (xf + (1 : Int32)), iv (xf + (2 : Int32)), .unset, .unset, .unset, .unset, .unset, .unset] [(.int v_fc), (.int (xf + (2 : Int32))), (.int v_c), (.ref b2)])) B0 := fun t kt => st194 t (by
              show own_At p e below T193 m 203 #[iv xf, iv xg, .val (.long xt), .second, .val (.long xq), .second, .val (.long xc), .second, iv bg, iv od, iv v_x, iv v_y, iv v_b1, iv v_b2, iv v_f1, iv v_f2, iv v_c, iv v_fc, rv b1, rv b2, iv (xf + (1 : Int32)), iv (xf + (2 : Int32)), .unset, .unset, .unset, .unset, .unset, .unset] [] _
              refine XS.aload X193.here hx rfl (hb hby at_203) rfl rfl ?_
              show own_At p e below T193 m 205 #[iv xf, iv xg, .val (.long xt), .second, .val (.long xq), .second, .val (.long xc), .second, iv bg, iv od, iv v_x, iv v_y, iv v_b1, iv v_b2, iv v_f1, iv v_f2, iv v_c, iv v_fc, rv b1, rv b2, iv (xf + (1 : Int32)), iv (xf + (2 : Int32)), .unset, .unset, .unset, .unset, .unset, .unset] [(.ref b2)] _
              refine XS.iload X193.here hx rfl (hb hby at_205) rfl ?_
              show own_At p e below T193 m 207 #[iv xf, iv xg, .val (.long xt), .second, .val (.long xq), .second, .val (.long xc), .second, iv bg, iv od, iv v_x, iv v_y, iv v_b1, iv v_b2, iv v_f1, iv v_f2, iv v_c, iv v_fc, rv b1, rv b2, iv (xf + (1 : Int32)), iv (xf + (2 : Int32)), .unset, .unset, .unset, .unset, .unset, .unset] [(.int v_c), (.ref b2)] _
              refine XS.iload X193.here hx rfl (hb hby at_207) rfl ?_
              show own_At p e below T193 m 209 #[iv xf, iv xg, .val (.long xt), .second, .val (.long xq), .second, .val (.long xc), .second, iv bg, iv od, iv v_x, iv v_y, iv v_b1, iv v_b2, iv v_f1, iv v_f2, iv v_c, iv v_fc, rv b1, rv b2, iv (xf + (1 : Int32)), iv (xf + (2 : Int32)), .unset, .unset, .unset, .unset, .unset, .unset] [(.int (xf + (2 : Int32))), (.int v_c), (.ref b2)] _
              refine XS.iload X193.here hx rfl (hb hby at_209) rfl ?_
              show own_At p e below T193 m 211 #[iv xf, iv xg, .val (.long xt), .second, .val (.long xq), .second, .val (.long xc), .second, iv bg, iv od, iv v_x, iv v_y, iv v_b1, iv v_b2, iv v_f1, iv v_f2, iv v_c, iv v_fc, rv b1, rv b2, iv (xf + (1 : Int32)), iv (xf + (2 : Int32)), .unset, .unset, .unset, .unset, .unset, .unset] [(.int v_fc), (.int (xf + (2 : Int32))), (.int v_c), (.ref b2)] _
              exact kt)
            obtain ⟨cq196, kq196, q196a, q196b, q196c⟩ := isOf hZ rfl Eq193
            obtain ⟨_, _, ⟨T196, L196, k196, n196⟩, -, X196, ⟨Lc196, hQ196, l196, y196, z196⟩, ls196⟩ := X193.virtualBack hx (y := (⟨"com/example/ranked_text_search/rankedtextsearch/MemoryTermVectors", "add", "(III)V"⟩ : MethodName)) (z := (⟨"com/example/ranked_text_search/rankedtextsearch/MemoryTermVectors", "add", "(III)V"⟩ : MethodName)) hown (mvT hZ (hw _ (List.mem_of_getElem? (i := 46) rfl))) (mvT hZ (hw _ (List.mem_of_getElem? (i := 47) rfl))) (notFace_of_selects (args := #[]) (mvT hZ (hw _ (List.mem_of_getElem? (i := 49) rfl)))) (mvT hZ (hw _ (List.mem_of_getElem? (i := 49) rfl))) (mvT hZ (hw _ (List.mem_of_getElem? (i := 48) rfl))) (by decide) (backOf (W := 0) (rm_add_2_16385 l Z a0 hw [] b2 v_c ((xf + (2 : Int32))) v_fc xf ((fun q => if q = 1 then 16384 else (own_st 16383 16385 16386) q)) ((fun q => if q = 16383 then v_b1 else (fun _ => (0 : Int32)) q)) ((fun q => if q = 16383 then v_f1 else (fun _ => (0 : Int32)) q)) T193.heap n0 Zq193 Vq193 d2 rfl) hZ (hw _ (List.mem_of_getElem? (i := 50) rfl)) (hw _ (List.mem_of_getElem? (i := 10) rfl)) (by decide) (by decide)) q196a q196c (g := (mkF m 211 #[iv xf, iv xg, .val (.long xt), .second, .val (.long xq), .second, .val (.long xc), .second, iv bg, iv od, iv v_x, iv v_y, iv v_b1, iv v_b2, iv v_f1, iv v_f2, iv v_c, iv v_fc, rv b1, rv b2, iv (xf + (1 : Int32)), iv (xf + (2 : Int32)), .unset, .unset, .unset, .unset, .unset, .unset] [(.int v_fc), (.int (xf + (2 : Int32))), (.int v_c), (.ref b2)])) rfl (by rw [hml]; rfl) (Steps.refl _) (argsL := [(.int v_c), (.int (xf + (2 : Int32))), (.int v_fc)]) (rest := []) (lenOf own_pd7 rfl) rfl (by show 2 * 0 + _ ≤ _; exact Nat.le_of_eq rfl) (hb hby at_211) (fun _ _ => ⟨rfl, rfl, (by decide : 10 + 0 ≤ _), (by decide : 32805 + 0 ≤ _)⟩)
            dsimp only [Pt.U, Pt.locs, Pt.cells, Pt.slots] at X196 l196 y196 z196 ls196 hQ196
            subst l196 y196 z196
            obtain ⟨rfl, Nq196, Zq196, Vq196⟩ := hQ196
            have N196 := Fr.app N193 Nq196
            have st197 : own_Go p e below (T196.setTop (mkF m 214 #[iv xf, iv xg, .val (.long xt), .second, .val (.long xq), .second, .val (.long xc), .second, iv bg, iv od, iv v_x, iv v_y, iv v_b1, iv v_b2, iv v_f1, iv v_f2, iv v_c, iv v_fc, rv b1, rv b2, iv (xf + (1 : Int32)), iv (xf + (2 : Int32)), .unset, .unset, .unset, .unset, .unset, .unset] [])) B0 := fun t kt => st195 t (ls196.trans kt)
            have Eq196 := Vq196.1
            have st198 : own_Go p e below (T196.setTop (mkF m 222 #[iv xf, iv xg, .val (.long xt), .second, .val (.long xq), .second, .val (.long xc), .second, iv bg, iv od, iv v_x, iv v_y, iv v_b1, iv v_b2, iv v_f1, iv v_f2, iv v_c, iv v_fc, rv b1, rv b2, iv (xf + (1 : Int32)), iv (xf + (2 : Int32)), .unset, .unset, .unset, .unset, .unset, .unset] [(.int v_f2), (.int (xf + (1 : Int32))), (.int v_b2), (.ref b2)])) B0 := fun t kt => st197 t (by
              show own_At p e below T196 m 214 #[iv xf, iv xg, .val (.long xt), .second, .val (.long xq), .second, .val (.long xc), .second, iv bg, iv od, iv v_x, iv v_y, iv v_b1, iv v_b2, iv v_f1, iv v_f2, iv v_c, iv v_fc, rv b1, rv b2, iv (xf + (1 : Int32)), iv (xf + (2 : Int32)), .unset, .unset, .unset, .unset, .unset, .unset] [] _
              refine XS.aload X196.here hx rfl (hb hby at_214) rfl rfl ?_
              show own_At p e below T196 m 216 #[iv xf, iv xg, .val (.long xt), .second, .val (.long xq), .second, .val (.long xc), .second, iv bg, iv od, iv v_x, iv v_y, iv v_b1, iv v_b2, iv v_f1, iv v_f2, iv v_c, iv v_fc, rv b1, rv b2, iv (xf + (1 : Int32)), iv (xf + (2 : Int32)), .unset, .unset, .unset, .unset, .unset, .unset] [(.ref b2)] _
              refine XS.iload X196.here hx rfl (hb hby at_216) rfl ?_
              show own_At p e below T196 m 218 #[iv xf, iv xg, .val (.long xt), .second, .val (.long xq), .second, .val (.long xc), .second, iv bg, iv od, iv v_x, iv v_y, iv v_b1, iv v_b2, iv v_f1, iv v_f2, iv v_c, iv v_fc, rv b1, rv b2, iv (xf + (1 : Int32)), iv (xf + (2 : Int32)), .unset, .unset, .unset, .unset, .unset, .unset] [(.int v_b2), (.ref b2)] _
              refine XS.iload X196.here hx rfl (hb hby at_218) rfl ?_
              show own_At p e below T196 m 220 #[iv xf, iv xg, .val (.long xt), .second, .val (.long xq), .second, .val (.long xc), .second, iv bg, iv od, iv v_x, iv v_y, iv v_b1, iv v_b2, iv v_f1, iv v_f2, iv v_c, iv v_fc, rv b1, rv b2, iv (xf + (1 : Int32)), iv (xf + (2 : Int32)), .unset, .unset, .unset, .unset, .unset, .unset] [(.int (xf + (1 : Int32))), (.int v_b2), (.ref b2)] _
              refine XS.iload X196.here hx rfl (hb hby at_220) rfl ?_
              show own_At p e below T196 m 222 #[iv xf, iv xg, .val (.long xt), .second, .val (.long xq), .second, .val (.long xc), .second, iv bg, iv od, iv v_x, iv v_y, iv v_b1, iv v_b2, iv v_f1, iv v_f2, iv v_c, iv v_fc, rv b1, rv b2, iv (xf + (1 : Int32)), iv (xf + (2 : Int32)), .unset, .unset, .unset, .unset, .unset, .unset] [(.int v_f2), (.int (xf + (1 : Int32))), (.int v_b2), (.ref b2)] _
              exact kt)
            obtain ⟨cq199, kq199, q199a, q199b, q199c⟩ := isOf hZ rfl Eq196
            obtain ⟨_, _, ⟨T199, L199, k199, n199⟩, -, X199, ⟨Lc199, hQ199, l199, y199, z199⟩, ls199⟩ := X196.virtualBack hx (y := (⟨"com/example/ranked_text_search/rankedtextsearch/MemoryTermVectors", "add", "(III)V"⟩ : MethodName)) (z := (⟨"com/example/ranked_text_search/rankedtextsearch/MemoryTermVectors", "add", "(III)V"⟩ : MethodName)) hown (mvT hZ (hw _ (List.mem_of_getElem? (i := 46) rfl))) (mvT hZ (hw _ (List.mem_of_getElem? (i := 47) rfl))) (notFace_of_selects (args := #[]) (mvT hZ (hw _ (List.mem_of_getElem? (i := 49) rfl)))) (mvT hZ (hw _ (List.mem_of_getElem? (i := 49) rfl))) (mvT hZ (hw _ (List.mem_of_getElem? (i := 48) rfl))) (by decide) (backOf (W := 0) (rm_add_1_16384 l Z a0 hw [] b2 v_b2 ((xf + (1 : Int32))) v_f2 xf ((fun q => if q = 2 then 16386 else (fun q => if q = 1 then 16384 else (own_st 16383 16385 16386) q) q)) ((fun q => if q = 16385 then v_c else (fun q => if q = 16383 then v_b1 else (fun _ => (0 : Int32)) q) q)) ((fun q => if q = 16385 then v_fc else (fun q => if q = 16383 then v_f1 else (fun _ => (0 : Int32)) q) q)) T196.heap n0 Zq196 Vq196 d1 rfl) hZ (hw _ (List.mem_of_getElem? (i := 50) rfl)) (hw _ (List.mem_of_getElem? (i := 10) rfl)) (by decide) (by decide)) q199a q199c (g := (mkF m 222 #[iv xf, iv xg, .val (.long xt), .second, .val (.long xq), .second, .val (.long xc), .second, iv bg, iv od, iv v_x, iv v_y, iv v_b1, iv v_b2, iv v_f1, iv v_f2, iv v_c, iv v_fc, rv b1, rv b2, iv (xf + (1 : Int32)), iv (xf + (2 : Int32)), .unset, .unset, .unset, .unset, .unset, .unset] [(.int v_f2), (.int (xf + (1 : Int32))), (.int v_b2), (.ref b2)])) rfl (by rw [hml]; rfl) (Steps.refl _) (argsL := [(.int v_b2), (.int (xf + (1 : Int32))), (.int v_f2)]) (rest := []) (lenOf own_pd7 rfl) rfl (by show 2 * 0 + _ ≤ _; exact Nat.le_of_eq rfl) (hb hby at_222) (fun _ _ => ⟨rfl, rfl, (by decide : 10 + 0 ≤ _), (by decide : 32805 + 0 ≤ _)⟩)
            dsimp only [Pt.U, Pt.locs, Pt.cells, Pt.slots] at X199 l199 y199 z199 ls199 hQ199
            subst l199 y199 z199
            obtain ⟨rfl, Nq199, Zq199, Vq199⟩ := hQ199
            have N199 := Fr.app N196 Nq199
            have st200 : own_Go p e below (T199.setTop (mkF m 225 #[iv xf, iv xg, .val (.long xt), .second, .val (.long xq), .second, .val (.long xc), .second, iv bg, iv od, iv v_x, iv v_y, iv v_b1, iv v_b2, iv v_f1, iv v_f2, iv v_c, iv v_fc, rv b1, rv b2, iv (xf + (1 : Int32)), iv (xf + (2 : Int32)), .unset, .unset, .unset, .unset, .unset, .unset] [])) B0 := fun t kt => st198 t (ls199.trans kt)
            have Eq199 := Vq199.1
            have st201 : own_Go p e below (T199.setTop (mkF m 261 #[iv xf, iv xg, .val (.long xt), .second, .val (.long xq), .second, .val (.long xc), .second, iv bg, iv od, iv v_x, iv v_y, iv v_b1, iv v_b2, iv v_f1, iv v_f2, iv v_c, iv v_fc, rv b1, rv b2, iv (xf + (1 : Int32)), iv (xf + (2 : Int32)), .unset, .unset, .unset, .unset, .unset, .unset] [])) B0 := fun t kt => st200 t (by
              show own_At p e below T199 m 225 #[iv xf, iv xg, .val (.long xt), .second, .val (.long xq), .second, .val (.long xc), .second, iv bg, iv od, iv v_x, iv v_y, iv v_b1, iv v_b2, iv v_f1, iv v_f2, iv v_c, iv v_fc, rv b1, rv b2, iv (xf + (1 : Int32)), iv (xf + (2 : Int32)), .unset, .unset, .unset, .unset, .unset, .unset] [] _
              refine XS.goto X199.here hx rfl (pc0 := 225) (pc' := 261) rfl (hb hby at_225) (by decide) (by decide) ?_
              show own_At p e below T199 m 261 #[iv xf, iv xg, .val (.long xt), .second, .val (.long xq), .second, .val (.long xc), .second, iv bg, iv od, iv v_x, iv v_y, iv v_b1, iv v_b2, iv v_f1, iv v_f2, iv v_c, iv v_fc, rv b1, rv b2, iv (xf + (1 : Int32)), iv (xf + (2 : Int32)), .unset, .unset, .unset, .unset, .unset, .unset] [] _
              exact kt)
            exact ⟨_, _, X199.more (by decide) (by decide), N199, Zq199, Vq199.to (fun q => by
                (try dsimp only [own_st])
                (repeat' split) <;> first | rfl | omega) (fun q => by
                (try dsimp only [own_st])
                (repeat' split) <;> first | rfl | omega) (fun q => by
                (try dsimp only [own_st])
                (repeat' split) <;> first | rfl | omega), st201⟩
          · have st202 : own_Go p e below (T177.setTop (mkF m 236 #[iv xf, iv xg, .val (.long xt), .second, .val (.long xq), .second, .val (.long xc), .second, iv bg, iv od, iv v_x, iv v_y, iv v_b1, iv v_b2, iv v_f1, iv v_f2, iv v_c, iv v_fc, rv b1, rv b2, iv (xf + (1 : Int32)), iv (xf + (2 : Int32)), .unset, .unset, .unset, .unset, .unset, .unset] [(.int v_fc), (.int (xf + (2 : Int32))), (.int v_c), (.ref b2)])) B0 := fun t kt => st191 t (by
              show own_At p e below T177 m 189 #[iv xf, iv xg, .val (.long xt), .second, .val (.long xq), .second, .val (.long xc), .second, iv bg, iv od, iv v_x, iv v_y, iv v_b1, iv v_b2, iv v_f1, iv v_f2, iv v_c, iv v_fc, rv b1, rv b2, iv (xf + (1 : Int32)), iv (xf + (2 : Int32)), .unset, .unset, .unset, .unset, .unset, .unset] [(.int (1 : Int32)), (.int od)] _
              refine XS.icmpYes X177.here hx rfl (pc0 := 189) (pc' := 228) rfl (hb hby at_189) rfl (feq q4).2 (by decide) (by decide) ?_
              show own_At p e below T177 m 228 #[iv xf, iv xg, .val (.long xt), .second, .val (.long xq), .second, .val (.long xc), .second, iv bg, iv od, iv v_x, iv v_y, iv v_b1, iv v_b2, iv v_f1, iv v_f2, iv v_c, iv v_fc, rv b1, rv b2, iv (xf + (1 : Int32)), iv (xf + (2 : Int32)), .unset, .unset, .unset, .unset, .unset, .unset] [] _
              refine XS.aload X177.here hx rfl (hb hby at_228) rfl rfl ?_
              show own_At p e below T177 m 230 #[iv xf, iv xg, .val (.long xt), .second, .val (.long xq), .second, .val (.long xc), .second, iv bg, iv od, iv v_x, iv v_y, iv v_b1, iv v_b2, iv v_f1, iv v_f2, iv v_c, iv v_fc, rv b1, rv b2, iv (xf + (1 : Int32)), iv (xf + (2 : Int32)), .unset, .unset, .unset, .unset, .unset, .unset] [(.ref b2)] _
              refine XS.iload X177.here hx rfl (hb hby at_230) rfl ?_
              show own_At p e below T177 m 232 #[iv xf, iv xg, .val (.long xt), .second, .val (.long xq), .second, .val (.long xc), .second, iv bg, iv od, iv v_x, iv v_y, iv v_b1, iv v_b2, iv v_f1, iv v_f2, iv v_c, iv v_fc, rv b1, rv b2, iv (xf + (1 : Int32)), iv (xf + (2 : Int32)), .unset, .unset, .unset, .unset, .unset, .unset] [(.int v_c), (.ref b2)] _
              refine XS.iload X177.here hx rfl (hb hby at_232) rfl ?_
              show own_At p e below T177 m 234 #[iv xf, iv xg, .val (.long xt), .second, .val (.long xq), .second, .val (.long xc), .second, iv bg, iv od, iv v_x, iv v_y, iv v_b1, iv v_b2, iv v_f1, iv v_f2, iv v_c, iv v_fc, rv b1, rv b2, iv (xf + (1 : Int32)), iv (xf + (2 : Int32)), .unset, .unset, .unset, .unset, .unset, .unset] [(.int (xf + (2 : Int32))), (.int v_c), (.ref b2)] _
              refine XS.iload X177.here hx rfl (hb hby at_234) rfl ?_
              show own_At p e below T177 m 236 #[iv xf, iv xg, .val (.long xt), .second, .val (.long xq), .second, .val (.long xc), .second, iv bg, iv od, iv v_x, iv v_y, iv v_b1, iv v_b2, iv v_f1, iv v_f2, iv v_c, iv v_fc, rv b1, rv b2, iv (xf + (1 : Int32)), iv (xf + (2 : Int32)), .unset, .unset, .unset, .unset, .unset, .unset] [(.int v_fc), (.int (xf + (2 : Int32))), (.int v_c), (.ref b2)] _
              exact kt)
            obtain ⟨cq203, kq203, q203a, q203b, q203c⟩ := isOf hZ rfl Eq177
            obtain ⟨_, _, ⟨T203, L203, k203, n203⟩, -, X203, ⟨Lc203, hQ203, l203, y203, z203⟩, ls203⟩ := X177.virtualBack hx (y := (⟨"com/example/ranked_text_search/rankedtextsearch/MemoryTermVectors", "add", "(III)V"⟩ : MethodName)) (z := (⟨"com/example/ranked_text_search/rankedtextsearch/MemoryTermVectors", "add", "(III)V"⟩ : MethodName)) hown (mvT hZ (hw _ (List.mem_of_getElem? (i := 46) rfl))) (mvT hZ (hw _ (List.mem_of_getElem? (i := 47) rfl))) (notFace_of_selects (args := #[]) (mvT hZ (hw _ (List.mem_of_getElem? (i := 49) rfl)))) (mvT hZ (hw _ (List.mem_of_getElem? (i := 49) rfl))) (mvT hZ (hw _ (List.mem_of_getElem? (i := 48) rfl))) (by decide) (backOf (W := 0) (rm_add_2_16385 l Z a0 hw [] b2 v_c ((xf + (2 : Int32))) v_fc xf ((own_st 16383 16385 16386)) ((fun _ => (0 : Int32))) ((fun _ => (0 : Int32))) T177.heap n0 Zq177 Vq177 d2 rfl) hZ (hw _ (List.mem_of_getElem? (i := 50) rfl)) (hw _ (List.mem_of_getElem? (i := 10) rfl)) (by decide) (by decide)) q203a q203c (g := (mkF m 236 #[iv xf, iv xg, .val (.long xt), .second, .val (.long xq), .second, .val (.long xc), .second, iv bg, iv od, iv v_x, iv v_y, iv v_b1, iv v_b2, iv v_f1, iv v_f2, iv v_c, iv v_fc, rv b1, rv b2, iv (xf + (1 : Int32)), iv (xf + (2 : Int32)), .unset, .unset, .unset, .unset, .unset, .unset] [(.int v_fc), (.int (xf + (2 : Int32))), (.int v_c), (.ref b2)])) rfl (by rw [hml]; rfl) (Steps.refl _) (argsL := [(.int v_c), (.int (xf + (2 : Int32))), (.int v_fc)]) (rest := []) (lenOf own_pd7 rfl) rfl (by show 2 * 0 + _ ≤ _; exact Nat.le_of_eq rfl) (hb hby at_236) (fun _ _ => ⟨rfl, rfl, (by decide : 10 + 0 ≤ _), (by decide : 32805 + 0 ≤ _)⟩)
            dsimp only [Pt.U, Pt.locs, Pt.cells, Pt.slots] at X203 l203 y203 z203 ls203 hQ203
            subst l203 y203 z203
            obtain ⟨rfl, Nq203, Zq203, Vq203⟩ := hQ203
            have N203 := Fr.app N177 Nq203
            have st204 : own_Go p e below (T203.setTop (mkF m 239 #[iv xf, iv xg, .val (.long xt), .second, .val (.long xq), .second, .val (.long xc), .second, iv bg, iv od, iv v_x, iv v_y, iv v_b1, iv v_b2, iv v_f1, iv v_f2, iv v_c, iv v_fc, rv b1, rv b2, iv (xf + (1 : Int32)), iv (xf + (2 : Int32)), .unset, .unset, .unset, .unset, .unset, .unset] [])) B0 := fun t kt => st202 t (ls203.trans kt)
            have Eq203 := Vq203.1
            have st205 : own_Go p e below (T203.setTop (mkF m 247 #[iv xf, iv xg, .val (.long xt), .second, .val (.long xq), .second, .val (.long xc), .second, iv bg, iv od, iv v_x, iv v_y, iv v_b1, iv v_b2, iv v_f1, iv v_f2, iv v_c, iv v_fc, rv b1, rv b2, iv (xf + (1 : Int32)), iv (xf + (2 : Int32)), .unset, .unset, .unset, .unset, .unset, .unset] [(.int v_f1), (.int (xf + (1 : Int32))), (.int v_b1), (.ref b2)])) B0 := fun t kt => st204 t (by
              show own_At p e below T203 m 239 #[iv xf, iv xg, .val (.long xt), .second, .val (.long xq), .second, .val (.long xc), .second, iv bg, iv od, iv v_x, iv v_y, iv v_b1, iv v_b2, iv v_f1, iv v_f2, iv v_c, iv v_fc, rv b1, rv b2, iv (xf + (1 : Int32)), iv (xf + (2 : Int32)), .unset, .unset, .unset, .unset, .unset, .unset] [] _
              refine XS.aload X203.here hx rfl (hb hby at_239) rfl rfl ?_
              show own_At p e below T203 m 241 #[iv xf, iv xg, .val (.long xt), .second, .val (.long xq), .second, .val (.long xc), .second, iv bg, iv od, iv v_x, iv v_y, iv v_b1, iv v_b2, iv v_f1, iv v_f2, iv v_c, iv v_fc, rv b1, rv b2, iv (xf + (1 : Int32)), iv (xf + (2 : Int32)), .unset, .unset, .unset, .unset, .unset, .unset] [(.ref b2)] _
              refine XS.iload X203.here hx rfl (hb hby at_241) rfl ?_
              show own_At p e below T203 m 243 #[iv xf, iv xg, .val (.long xt), .second, .val (.long xq), .second, .val (.long xc), .second, iv bg, iv od, iv v_x, iv v_y, iv v_b1, iv v_b2, iv v_f1, iv v_f2, iv v_c, iv v_fc, rv b1, rv b2, iv (xf + (1 : Int32)), iv (xf + (2 : Int32)), .unset, .unset, .unset, .unset, .unset, .unset] [(.int v_b1), (.ref b2)] _
              refine XS.iload X203.here hx rfl (hb hby at_243) rfl ?_
              show own_At p e below T203 m 245 #[iv xf, iv xg, .val (.long xt), .second, .val (.long xq), .second, .val (.long xc), .second, iv bg, iv od, iv v_x, iv v_y, iv v_b1, iv v_b2, iv v_f1, iv v_f2, iv v_c, iv v_fc, rv b1, rv b2, iv (xf + (1 : Int32)), iv (xf + (2 : Int32)), .unset, .unset, .unset, .unset, .unset, .unset] [(.int (xf + (1 : Int32))), (.int v_b1), (.ref b2)] _
              refine XS.iload X203.here hx rfl (hb hby at_245) rfl ?_
              show own_At p e below T203 m 247 #[iv xf, iv xg, .val (.long xt), .second, .val (.long xq), .second, .val (.long xc), .second, iv bg, iv od, iv v_x, iv v_y, iv v_b1, iv v_b2, iv v_f1, iv v_f2, iv v_c, iv v_fc, rv b1, rv b2, iv (xf + (1 : Int32)), iv (xf + (2 : Int32)), .unset, .unset, .unset, .unset, .unset, .unset] [(.int v_f1), (.int (xf + (1 : Int32))), (.int v_b1), (.ref b2)] _
              exact kt)
            obtain ⟨cq206, kq206, q206a, q206b, q206c⟩ := isOf hZ rfl Eq203
            obtain ⟨_, _, ⟨T206, L206, k206, n206⟩, -, X206, ⟨Lc206, hQ206, l206, y206, z206⟩, ls206⟩ := X203.virtualBack hx (y := (⟨"com/example/ranked_text_search/rankedtextsearch/MemoryTermVectors", "add", "(III)V"⟩ : MethodName)) (z := (⟨"com/example/ranked_text_search/rankedtextsearch/MemoryTermVectors", "add", "(III)V"⟩ : MethodName)) hown (mvT hZ (hw _ (List.mem_of_getElem? (i := 46) rfl))) (mvT hZ (hw _ (List.mem_of_getElem? (i := 47) rfl))) (notFace_of_selects (args := #[]) (mvT hZ (hw _ (List.mem_of_getElem? (i := 49) rfl)))) (mvT hZ (hw _ (List.mem_of_getElem? (i := 49) rfl))) (mvT hZ (hw _ (List.mem_of_getElem? (i := 48) rfl))) (by decide) (backOf (W := 0) (rm_add_1_16383 l Z a0 hw [] b2 v_b1 ((xf + (1 : Int32))) v_f1 xf ((fun q => if q = 2 then 16386 else (own_st 16383 16385 16386) q)) ((fun q => if q = 16385 then v_c else (fun _ => (0 : Int32)) q)) ((fun q => if q = 16385 then v_fc else (fun _ => (0 : Int32)) q)) T203.heap n0 Zq203 Vq203 d1 rfl) hZ (hw _ (List.mem_of_getElem? (i := 50) rfl)) (hw _ (List.mem_of_getElem? (i := 10) rfl)) (by decide) (by decide)) q206a q206c (g := (mkF m 247 #[iv xf, iv xg, .val (.long xt), .second, .val (.long xq), .second, .val (.long xc), .second, iv bg, iv od, iv v_x, iv v_y, iv v_b1, iv v_b2, iv v_f1, iv v_f2, iv v_c, iv v_fc, rv b1, rv b2, iv (xf + (1 : Int32)), iv (xf + (2 : Int32)), .unset, .unset, .unset, .unset, .unset, .unset] [(.int v_f1), (.int (xf + (1 : Int32))), (.int v_b1), (.ref b2)])) rfl (by rw [hml]; rfl) (Steps.refl _) (argsL := [(.int v_b1), (.int (xf + (1 : Int32))), (.int v_f1)]) (rest := []) (lenOf own_pd7 rfl) rfl (by show 2 * 0 + _ ≤ _; exact Nat.le_of_eq rfl) (hb hby at_247) (fun _ _ => ⟨rfl, rfl, (by decide : 10 + 0 ≤ _), (by decide : 32805 + 0 ≤ _)⟩)
            dsimp only [Pt.U, Pt.locs, Pt.cells, Pt.slots] at X206 l206 y206 z206 ls206 hQ206
            subst l206 y206 z206
            obtain ⟨rfl, Nq206, Zq206, Vq206⟩ := hQ206
            have N206 := Fr.app N203 Nq206
            have st207 : own_Go p e below (T206.setTop (mkF m 250 #[iv xf, iv xg, .val (.long xt), .second, .val (.long xq), .second, .val (.long xc), .second, iv bg, iv od, iv v_x, iv v_y, iv v_b1, iv v_b2, iv v_f1, iv v_f2, iv v_c, iv v_fc, rv b1, rv b2, iv (xf + (1 : Int32)), iv (xf + (2 : Int32)), .unset, .unset, .unset, .unset, .unset, .unset] [])) B0 := fun t kt => st205 t (ls206.trans kt)
            have Eq206 := Vq206.1
            have st208 : own_Go p e below (T206.setTop (mkF m 258 #[iv xf, iv xg, .val (.long xt), .second, .val (.long xq), .second, .val (.long xc), .second, iv bg, iv od, iv v_x, iv v_y, iv v_b1, iv v_b2, iv v_f1, iv v_f2, iv v_c, iv v_fc, rv b1, rv b2, iv (xf + (1 : Int32)), iv (xf + (2 : Int32)), .unset, .unset, .unset, .unset, .unset, .unset] [(.int v_f2), (.int (xf + (1 : Int32))), (.int v_b2), (.ref b2)])) B0 := fun t kt => st207 t (by
              show own_At p e below T206 m 250 #[iv xf, iv xg, .val (.long xt), .second, .val (.long xq), .second, .val (.long xc), .second, iv bg, iv od, iv v_x, iv v_y, iv v_b1, iv v_b2, iv v_f1, iv v_f2, iv v_c, iv v_fc, rv b1, rv b2, iv (xf + (1 : Int32)), iv (xf + (2 : Int32)), .unset, .unset, .unset, .unset, .unset, .unset] [] _
              refine XS.aload X206.here hx rfl (hb hby at_250) rfl rfl ?_
              show own_At p e below T206 m 252 #[iv xf, iv xg, .val (.long xt), .second, .val (.long xq), .second, .val (.long xc), .second, iv bg, iv od, iv v_x, iv v_y, iv v_b1, iv v_b2, iv v_f1, iv v_f2, iv v_c, iv v_fc, rv b1, rv b2, iv (xf + (1 : Int32)), iv (xf + (2 : Int32)), .unset, .unset, .unset, .unset, .unset, .unset] [(.ref b2)] _
              refine XS.iload X206.here hx rfl (hb hby at_252) rfl ?_
              show own_At p e below T206 m 254 #[iv xf, iv xg, .val (.long xt), .second, .val (.long xq), .second, .val (.long xc), .second, iv bg, iv od, iv v_x, iv v_y, iv v_b1, iv v_b2, iv v_f1, iv v_f2, iv v_c, iv v_fc, rv b1, rv b2, iv (xf + (1 : Int32)), iv (xf + (2 : Int32)), .unset, .unset, .unset, .unset, .unset, .unset] [(.int v_b2), (.ref b2)] _
              refine XS.iload X206.here hx rfl (hb hby at_254) rfl ?_
              show own_At p e below T206 m 256 #[iv xf, iv xg, .val (.long xt), .second, .val (.long xq), .second, .val (.long xc), .second, iv bg, iv od, iv v_x, iv v_y, iv v_b1, iv v_b2, iv v_f1, iv v_f2, iv v_c, iv v_fc, rv b1, rv b2, iv (xf + (1 : Int32)), iv (xf + (2 : Int32)), .unset, .unset, .unset, .unset, .unset, .unset] [(.int (xf + (1 : Int32))), (.int v_b2), (.ref b2)] _
              refine XS.iload X206.here hx rfl (hb hby at_256) rfl ?_
              show own_At p e below T206 m 258 #[iv xf, iv xg, .val (.long xt), .second, .val (.long xq), .second, .val (.long xc), .second, iv bg, iv od, iv v_x, iv v_y, iv v_b1, iv v_b2, iv v_f1, iv v_f2, iv v_c, iv v_fc, rv b1, rv b2, iv (xf + (1 : Int32)), iv (xf + (2 : Int32)), .unset, .unset, .unset, .unset, .unset, .unset] [(.int v_f2), (.int (xf + (1 : Int32))), (.int v_b2), (.ref b2)] _
              exact kt)
            obtain ⟨cq209, kq209, q209a, q209b, q209c⟩ := isOf hZ rfl Eq206
            obtain ⟨_, _, ⟨T209, L209, k209, n209⟩, -, X209, ⟨Lc209, hQ209, l209, y209, z209⟩, ls209⟩ := X206.virtualBack hx (y := (⟨"com/example/ranked_text_search/rankedtextsearch/MemoryTermVectors", "add", "(III)V"⟩ : MethodName)) (z := (⟨"com/example/ranked_text_search/rankedtextsearch/MemoryTermVectors", "add", "(III)V"⟩ : MethodName)) hown (mvT hZ (hw _ (List.mem_of_getElem? (i := 46) rfl))) (mvT hZ (hw _ (List.mem_of_getElem? (i := 47) rfl))) (notFace_of_selects (args := #[]) (mvT hZ (hw _ (List.mem_of_getElem? (i := 49) rfl)))) (mvT hZ (hw _ (List.mem_of_getElem? (i := 49) rfl))) (mvT hZ (hw _ (List.mem_of_getElem? (i := 48) rfl))) (by decide) (backOf (W := 0) (rm_add_1_16384 l Z a0 hw [] b2 v_b2 ((xf + (1 : Int32))) v_f2 xf ((fun q => if q = 1 then 16384 else (fun q => if q = 2 then 16386 else (own_st 16383 16385 16386) q) q)) ((fun q => if q = 16383 then v_b1 else (fun q => if q = 16385 then v_c else (fun _ => (0 : Int32)) q) q)) ((fun q => if q = 16383 then v_f1 else (fun q => if q = 16385 then v_fc else (fun _ => (0 : Int32)) q) q)) T206.heap n0 Zq206 Vq206 d1 rfl) hZ (hw _ (List.mem_of_getElem? (i := 50) rfl)) (hw _ (List.mem_of_getElem? (i := 10) rfl)) (by decide) (by decide)) q209a q209c (g := (mkF m 258 #[iv xf, iv xg, .val (.long xt), .second, .val (.long xq), .second, .val (.long xc), .second, iv bg, iv od, iv v_x, iv v_y, iv v_b1, iv v_b2, iv v_f1, iv v_f2, iv v_c, iv v_fc, rv b1, rv b2, iv (xf + (1 : Int32)), iv (xf + (2 : Int32)), .unset, .unset, .unset, .unset, .unset, .unset] [(.int v_f2), (.int (xf + (1 : Int32))), (.int v_b2), (.ref b2)])) rfl (by rw [hml]; rfl) (Steps.refl _) (argsL := [(.int v_b2), (.int (xf + (1 : Int32))), (.int v_f2)]) (rest := []) (lenOf own_pd7 rfl) rfl (by show 2 * 0 + _ ≤ _; exact Nat.le_of_eq rfl) (hb hby at_258) (fun _ _ => ⟨rfl, rfl, (by decide : 10 + 0 ≤ _), (by decide : 32805 + 0 ≤ _)⟩)
            dsimp only [Pt.U, Pt.locs, Pt.cells, Pt.slots] at X209 l209 y209 z209 ls209 hQ209
            subst l209 y209 z209
            obtain ⟨rfl, Nq209, Zq209, Vq209⟩ := hQ209
            have N209 := Fr.app N206 Nq209
            have st210 : own_Go p e below (T209.setTop (mkF m 261 #[iv xf, iv xg, .val (.long xt), .second, .val (.long xq), .second, .val (.long xc), .second, iv bg, iv od, iv v_x, iv v_y, iv v_b1, iv v_b2, iv v_f1, iv v_f2, iv v_c, iv v_fc, rv b1, rv b2, iv (xf + (1 : Int32)), iv (xf + (2 : Int32)), .unset, .unset, .unset, .unset, .unset, .unset] [])) B0 := fun t kt => st208 t (ls209.trans kt)
            have Eq209 := Vq209.1
            exact ⟨_, _, X209.more (by decide) (by decide), N209, Zq209, Vq209.to (fun q => by
                (try dsimp only [own_st])
                (repeat' split) <;> first | rfl | omega) (fun q => by
                (try dsimp only [own_st])
                (repeat' split) <;> first | rfl | omega) (fun q => by
                (try dsimp only [own_st])
                (repeat' split) <;> first | rfl | omega), st210⟩
      have Ej := Vj.1
      have st211 : own_Go p e below (T180.setTop (mkF m 265 #[iv xf, iv xg, .val (.long xt), .second, .val (.long xq), .second, .val (.long xc), .second, iv bg, iv od, iv v_x, iv v_y, iv v_b1, iv v_b2, iv v_f1, iv v_f2, iv v_c, iv v_fc, rv b1, rv b2, iv (xf + (1 : Int32)), iv (xf + (2 : Int32)), .unset, .unset, .unset, .unset, .unset, .unset] [(.int (xf + (1 : Int32))), (.ref b2)])) B0 := fun t kt => st180 t (by
        show own_At p e below T180 m 261 #[iv xf, iv xg, .val (.long xt), .second, .val (.long xq), .second, .val (.long xc), .second, iv bg, iv od, iv v_x, iv v_y, iv v_b1, iv v_b2, iv v_f1, iv v_f2, iv v_c, iv v_fc, rv b1, rv b2, iv (xf + (1 : Int32)), iv (xf + (2 : Int32)), .unset, .unset, .unset, .unset, .unset, .unset] [] _
        refine XS.aload X180.here hx rfl (hb hby at_261) rfl rfl ?_
        show own_At p e below T180 m 263 #[iv xf, iv xg, .val (.long xt), .second, .val (.long xq), .second, .val (.long xc), .second, iv bg, iv od, iv v_x, iv v_y, iv v_b1, iv v_b2, iv v_f1, iv v_f2, iv v_c, iv v_fc, rv b1, rv b2, iv (xf + (1 : Int32)), iv (xf + (2 : Int32)), .unset, .unset, .unset, .unset, .unset, .unset] [(.ref b2)] _
        refine XS.iload X180.here hx rfl (hb hby at_263) rfl ?_
        show own_At p e below T180 m 265 #[iv xf, iv xg, .val (.long xt), .second, .val (.long xq), .second, .val (.long xc), .second, iv bg, iv od, iv v_x, iv v_y, iv v_b1, iv v_b2, iv v_f1, iv v_f2, iv v_c, iv v_fc, rv b1, rv b2, iv (xf + (1 : Int32)), iv (xf + (2 : Int32)), .unset, .unset, .unset, .unset, .unset, .unset] [(.int (xf + (1 : Int32))), (.ref b2)] _
        exact kt)
      obtain ⟨cq212, kq212, q212a, q212b, q212c⟩ := isOf hZ rfl Ej
      obtain ⟨_, _, ⟨T212, L212, k212, n212⟩, -, X212, ⟨Lc212, hQ212, l212, y212, z212⟩, ls212⟩ := X180.virtualBack hx (y := (⟨"com/example/ranked_text_search/rankedtextsearch/MemoryTermVectors", "vector", "(I)Lcom/example/ranked_text_search/rankedtextsearch/TermVectors$Vector;"⟩ : MethodName)) (z := (⟨"com/example/ranked_text_search/rankedtextsearch/MemoryTermVectors", "vector", "(I)Lcom/example/ranked_text_search/rankedtextsearch/TermVectors$Vector;"⟩ : MethodName)) hown (mvT hZ (hw _ (List.mem_of_getElem? (i := 51) rfl))) (mvT hZ (hw _ (List.mem_of_getElem? (i := 52) rfl))) (notFace_of_selects (args := #[]) (mvT hZ (hw _ (List.mem_of_getElem? (i := 54) rfl)))) (mvT hZ (hw _ (List.mem_of_getElem? (i := 54) rfl))) (mvT hZ (hw _ (List.mem_of_getElem? (i := 53) rfl))) (by decide) (backOf (W := 0) (rm_vec_16383_16385 l Z a0 hw [] b2 ((xf + (1 : Int32))) xf ((fun q => if q = 1 then 16385 else if q = 2 then 16386 else own_st 16383 16385 16386 q)) ((fun q => if q = 16383 then v_b1 else if q = 16384 then v_b2 else if q = 16385 then v_c else 0)) ((fun q => if q = 16383 then v_f1 else if q = 16384 then v_f2 else if q = 16385 then v_fc else 0)) T180.heap n0 Z180 Vj d1) hZ (hw _ (List.mem_of_getElem? (i := 55) rfl)) (hw _ (List.mem_of_getElem? (i := 10) rfl)) (by decide) (by decide)) q212a q212c (g := (mkF m 265 #[iv xf, iv xg, .val (.long xt), .second, .val (.long xq), .second, .val (.long xc), .second, iv bg, iv od, iv v_x, iv v_y, iv v_b1, iv v_b2, iv v_f1, iv v_f2, iv v_c, iv v_fc, rv b1, rv b2, iv (xf + (1 : Int32)), iv (xf + (2 : Int32)), .unset, .unset, .unset, .unset, .unset, .unset] [(.int (xf + (1 : Int32))), (.ref b2)])) rfl (by rw [hml]; rfl) (Steps.refl _) (argsL := [(.int (xf + (1 : Int32)))]) (rest := []) (lenOf own_pd8 rfl) rfl (by show 2 * 0 + _ ≤ _; exact Nat.le_of_eq rfl) (hb hby at_265) (fun _ _ => ⟨rfl, rfl, (by decide : 10 + 3 ≤ _), (by decide : 32805 + 6 ≤ _)⟩)
      dsimp only [Pt.U, Pt.locs, Pt.cells, Pt.slots] at X212 l212 y212 z212 ls212 hQ212
      subst l212 y212 z212
      obtain ⟨vq212, r1q212, r2q212, rfl, Nq212, Kq212, Ev212, Fr1q212, Fr2q212, Ar1q212, Ar2q212⟩ := hQ212
      have N212 := Fr.app N180 Nq212
      have f213 := Ej.keep Kq212
      have z214 := Nat.le_trans Z180 Kq212.1
      have st215 : own_Go p e below (T212.setTop (mkF m 268 #[iv xf, iv xg, .val (.long xt), .second, .val (.long xq), .second, .val (.long xc), .second, iv bg, iv od, iv v_x, iv v_y, iv v_b1, iv v_b2, iv v_f1, iv v_f2, iv v_c, iv v_fc, rv b1, rv b2, iv (xf + (1 : Int32)), iv (xf + (2 : Int32)), .unset, .unset, .unset, .unset, .unset, .unset] [(.ref vq212)])) B0 := fun t kt => st211 t (ls212.trans kt)
      have V216 := Vj.keep0 Kq212
      have st217 : own_Go p e below (T212.setTop (mkF m 274 #[iv xf, iv xg, .val (.long xt), .second, .val (.long xq), .second, .val (.long xc), .second, iv bg, iv od, iv v_x, iv v_y, iv v_b1, iv v_b2, iv v_f1, iv v_f2, iv v_c, iv v_fc, rv b1, rv b2, iv (xf + (1 : Int32)), iv (xf + (2 : Int32)), rv vq212, .unset, .unset, .unset, .unset, .unset] [(.int (xf + (2 : Int32))), (.ref b2)])) B0 := fun t kt => st215 t (by
        show own_At p e below T212 m 268 #[iv xf, iv xg, .val (.long xt), .second, .val (.long xq), .second, .val (.long xc), .second, iv bg, iv od, iv v_x, iv v_y, iv v_b1, iv v_b2, iv v_f1, iv v_f2, iv v_c, iv v_fc, rv b1, rv b2, iv (xf + (1 : Int32)), iv (xf + (2 : Int32)), .unset, .unset, .unset, .unset, .unset, .unset] [(.ref vq212)] _
        refine XS.astore X212.here hx rfl (hb hby at_268) rfl rfl (l' := #[iv xf, iv xg, .val (.long xt), .second, .val (.long xq), .second, .val (.long xc), .second, iv bg, iv od, iv v_x, iv v_y, iv v_b1, iv v_b2, iv v_f1, iv v_f2, iv v_c, iv v_fc, rv b1, rv b2, iv (xf + (1 : Int32)), iv (xf + (2 : Int32)), rv vq212, .unset, .unset, .unset, .unset, .unset]) rfl ?_
        show own_At p e below T212 m 270 #[iv xf, iv xg, .val (.long xt), .second, .val (.long xq), .second, .val (.long xc), .second, iv bg, iv od, iv v_x, iv v_y, iv v_b1, iv v_b2, iv v_f1, iv v_f2, iv v_c, iv v_fc, rv b1, rv b2, iv (xf + (1 : Int32)), iv (xf + (2 : Int32)), rv vq212, .unset, .unset, .unset, .unset, .unset] [] _
        refine XS.aload X212.here hx rfl (hb hby at_270) rfl rfl ?_
        show own_At p e below T212 m 272 #[iv xf, iv xg, .val (.long xt), .second, .val (.long xq), .second, .val (.long xc), .second, iv bg, iv od, iv v_x, iv v_y, iv v_b1, iv v_b2, iv v_f1, iv v_f2, iv v_c, iv v_fc, rv b1, rv b2, iv (xf + (1 : Int32)), iv (xf + (2 : Int32)), rv vq212, .unset, .unset, .unset, .unset, .unset] [(.ref b2)] _
        refine XS.iload X212.here hx rfl (hb hby at_272) rfl ?_
        show own_At p e below T212 m 274 #[iv xf, iv xg, .val (.long xt), .second, .val (.long xq), .second, .val (.long xc), .second, iv bg, iv od, iv v_x, iv v_y, iv v_b1, iv v_b2, iv v_f1, iv v_f2, iv v_c, iv v_fc, rv b1, rv b2, iv (xf + (1 : Int32)), iv (xf + (2 : Int32)), rv vq212, .unset, .unset, .unset, .unset, .unset] [(.int (xf + (2 : Int32))), (.ref b2)] _
        exact kt)
      obtain ⟨cq218, kq218, q218a, q218b, q218c⟩ := isOf hZ rfl f213
      obtain ⟨_, _, ⟨T218, L218, k218, n218⟩, -, X218, ⟨Lc218, hQ218, l218, y218, z218⟩, ls218⟩ := X212.virtualBack hx (y := (⟨"com/example/ranked_text_search/rankedtextsearch/MemoryTermVectors", "vector", "(I)Lcom/example/ranked_text_search/rankedtextsearch/TermVectors$Vector;"⟩ : MethodName)) (z := (⟨"com/example/ranked_text_search/rankedtextsearch/MemoryTermVectors", "vector", "(I)Lcom/example/ranked_text_search/rankedtextsearch/TermVectors$Vector;"⟩ : MethodName)) hown (mvT hZ (hw _ (List.mem_of_getElem? (i := 51) rfl))) (mvT hZ (hw _ (List.mem_of_getElem? (i := 52) rfl))) (notFace_of_selects (args := #[]) (mvT hZ (hw _ (List.mem_of_getElem? (i := 54) rfl)))) (mvT hZ (hw _ (List.mem_of_getElem? (i := 54) rfl))) (mvT hZ (hw _ (List.mem_of_getElem? (i := 53) rfl))) (by decide) (backOf (W := 0) (rm_vec_16385_16386 l Z a0 hw [] b2 ((xf + (2 : Int32))) xf ((fun q => if q = 1 then 16385 else if q = 2 then 16386 else own_st 16383 16385 16386 q)) ((fun q => if q = 16383 then v_b1 else if q = 16384 then v_b2 else if q = 16385 then v_c else 0)) ((fun q => if q = 16383 then v_f1 else if q = 16384 then v_f2 else if q = 16385 then v_fc else 0)) T212.heap n0 z214 V216 d2) hZ (hw _ (List.mem_of_getElem? (i := 55) rfl)) (hw _ (List.mem_of_getElem? (i := 10) rfl)) (by decide) (by decide)) q218a q218c (g := (mkF m 274 #[iv xf, iv xg, .val (.long xt), .second, .val (.long xq), .second, .val (.long xc), .second, iv bg, iv od, iv v_x, iv v_y, iv v_b1, iv v_b2, iv v_f1, iv v_f2, iv v_c, iv v_fc, rv b1, rv b2, iv (xf + (1 : Int32)), iv (xf + (2 : Int32)), rv vq212, .unset, .unset, .unset, .unset, .unset] [(.int (xf + (2 : Int32))), (.ref b2)])) rfl (by rw [hml]; rfl) (Steps.refl _) (argsL := [(.int (xf + (2 : Int32)))]) (rest := []) (lenOf own_pd8 rfl) rfl (by show 2 * 0 + _ ≤ _; exact Nat.le_of_eq rfl) (hb hby at_274) (fun _ _ => ⟨rfl, rfl, (by decide : 13 + 3 ≤ _), (by decide : 32811 + 4 ≤ _)⟩)
      dsimp only [Pt.U, Pt.locs, Pt.cells, Pt.slots] at X218 l218 y218 z218 ls218 hQ218
      subst l218 y218 z218
      obtain ⟨vq218, r1q218, r2q218, rfl, Nq218, Kq218, Ev218, Fr1q218, Fr2q218, Ar1q218, Ar2q218⟩ := hQ218
      have N218 := Fr.app N212 Nq218
      have f219 := f213.keep Kq218
      have f220 := Ev212.keep Kq218
      have f221 := Fr1q212.keep Kq218 nin0
      have f222 := Ar1q212.keep Kq218 nin0
      have f223 := Fr2q212.keep Kq218 nin0
      have f224 := Ar2q212.keep Kq218 nin0
      have z225 := Nat.le_trans z214 Kq218.1
      have st226 : own_Go p e below (T218.setTop (mkF m 277 #[iv xf, iv xg, .val (.long xt), .second, .val (.long xq), .second, .val (.long xc), .second, iv bg, iv od, iv v_x, iv v_y, iv v_b1, iv v_b2, iv v_f1, iv v_f2, iv v_c, iv v_fc, rv b1, rv b2, iv (xf + (1 : Int32)), iv (xf + (2 : Int32)), rv vq212, .unset, .unset, .unset, .unset, .unset] [(.ref vq218)])) B0 := fun t kt => st217 t (ls218.trans kt)
      have V227 := V216.keep0 Kq218
      have st228 : own_Go p e below (T218.setTop (mkF m 281 #[iv xf, iv xg, .val (.long xt), .second, .val (.long xq), .second, .val (.long xc), .second, iv bg, iv od, iv v_x, iv v_y, iv v_b1, iv v_b2, iv v_f1, iv v_f2, iv v_c, iv v_fc, rv b1, rv b2, iv (xf + (1 : Int32)), iv (xf + (2 : Int32)), rv vq212, rv vq218, .unset, .unset, .unset, .unset] [(.ref vq212)])) B0 := fun t kt => st226 t (by
        show own_At p e below T218 m 277 #[iv xf, iv xg, .val (.long xt), .second, .val (.long xq), .second, .val (.long xc), .second, iv bg, iv od, iv v_x, iv v_y, iv v_b1, iv v_b2, iv v_f1, iv v_f2, iv v_c, iv v_fc, rv b1, rv b2, iv (xf + (1 : Int32)), iv (xf + (2 : Int32)), rv vq212, .unset, .unset, .unset, .unset, .unset] [(.ref vq218)] _
        refine XS.astore X218.here hx rfl (hb hby at_277) rfl rfl (l' := #[iv xf, iv xg, .val (.long xt), .second, .val (.long xq), .second, .val (.long xc), .second, iv bg, iv od, iv v_x, iv v_y, iv v_b1, iv v_b2, iv v_f1, iv v_f2, iv v_c, iv v_fc, rv b1, rv b2, iv (xf + (1 : Int32)), iv (xf + (2 : Int32)), rv vq212, rv vq218, .unset, .unset, .unset, .unset]) rfl ?_
        show own_At p e below T218 m 279 #[iv xf, iv xg, .val (.long xt), .second, .val (.long xq), .second, .val (.long xc), .second, iv bg, iv od, iv v_x, iv v_y, iv v_b1, iv v_b2, iv v_f1, iv v_f2, iv v_c, iv v_fc, rv b1, rv b2, iv (xf + (1 : Int32)), iv (xf + (2 : Int32)), rv vq212, rv vq218, .unset, .unset, .unset, .unset] [] _
        refine XS.aload X218.here hx rfl (hb hby at_279) rfl rfl ?_
        show own_At p e below T218 m 281 #[iv xf, iv xg, .val (.long xt), .second, .val (.long xq), .second, .val (.long xc), .second, iv bg, iv od, iv v_x, iv v_y, iv v_b1, iv v_b2, iv v_f1, iv v_f2, iv v_c, iv v_fc, rv b1, rv b2, iv (xf + (1 : Int32)), iv (xf + (2 : Int32)), rv vq212, rv vq218, .unset, .unset, .unset, .unset] [(.ref vq212)] _
        exact kt)
      obtain ⟨cq229, kq229, q229a, q229b, q229c⟩ := isOf hZ rfl f220
      obtain ⟨_, _, ⟨T229, L229, k229, n229⟩, -, X229, ⟨Lc229, hQ229, l229, y229, z229⟩, ls229⟩ := X218.virtualBack hx (y := (⟨"com/example/ranked_text_search/rankedtextsearch/TermVectors$Vector", "termNumbers", "()[I"⟩ : MethodName)) (z := (⟨"com/example/ranked_text_search/rankedtextsearch/TermVectors$Vector", "termNumbers", "()[I"⟩ : MethodName)) hown (mvT hZ (hw _ (List.mem_of_getElem? (i := 76) rfl))) (mvT hZ (hw _ (List.mem_of_getElem? (i := 77) rfl))) (notFace_of_selects (args := #[]) (mvT hZ (hw _ (List.mem_of_getElem? (i := 79) rfl)))) (mvT hZ (hw _ (List.mem_of_getElem? (i := 79) rfl))) (mvT hZ (hw _ (List.mem_of_getElem? (i := 78) rfl))) (by decide) (backOf (W := 0) (rm_acc_termNumbers l Z a0 hw [] vq212 r1q212 T218.heap n0 z225 f221) hZ (hw _ (List.mem_of_getElem? (i := 80) rfl)) (hw _ (List.mem_of_getElem? (i := 58) rfl)) (by decide) (by decide)) q229a q229c (g := (mkF m 281 #[iv xf, iv xg, .val (.long xt), .second, .val (.long xq), .second, .val (.long xc), .second, iv bg, iv od, iv v_x, iv v_y, iv v_b1, iv v_b2, iv v_f1, iv v_f2, iv v_c, iv v_fc, rv b1, rv b2, iv (xf + (1 : Int32)), iv (xf + (2 : Int32)), rv vq212, rv vq218, .unset, .unset, .unset, .unset] [(.ref vq212)])) rfl (by rw [hml]; rfl) (Steps.refl _) (argsL := []) (rest := []) (lenOf own_pd9 rfl) rfl (by show 2 * 0 + _ ≤ _; exact Nat.le_of_eq rfl) (hb hby at_281) (fun _ _ => ⟨rfl, rfl, (by decide : 16 + 0 ≤ _), (by decide : 32815 + 0 ≤ _)⟩)
      dsimp only [Pt.U, Pt.locs, Pt.cells, Pt.slots] at X229 l229 y229 z229 ls229 hQ229
      subst l229 y229 z229
      obtain ⟨rfl, Nq229, eq229⟩ := hQ229
      have N229 := Fr.app N218 Nq229
      have st230 : own_Go p e below (T229.setTop (mkF m 284 #[iv xf, iv xg, .val (.long xt), .second, .val (.long xq), .second, .val (.long xc), .second, iv bg, iv od, iv v_x, iv v_y, iv v_b1, iv v_b2, iv v_f1, iv v_f2, iv v_c, iv v_fc, rv b1, rv b2, iv (xf + (1 : Int32)), iv (xf + (2 : Int32)), rv vq212, rv vq218, .unset, .unset, .unset, .unset] [(.ref r1q212)])) B0 := fun t kt => st228 t (ls229.trans kt)
      have st231 : own_Go p e below (T229.setTop (mkF m 288 #[iv xf, iv xg, .val (.long xt), .second, .val (.long xq), .second, .val (.long xc), .second, iv bg, iv od, iv v_x, iv v_y, iv v_b1, iv v_b2, iv v_f1, iv v_f2, iv v_c, iv v_fc, rv b1, rv b2, iv (xf + (1 : Int32)), iv (xf + (2 : Int32)), rv vq212, rv vq218, rv r1q212, .unset, .unset, .unset] [(.ref vq212)])) B0 := fun t kt => st230 t (by
        show own_At p e below T229 m 284 #[iv xf, iv xg, .val (.long xt), .second, .val (.long xq), .second, .val (.long xc), .second, iv bg, iv od, iv v_x, iv v_y, iv v_b1, iv v_b2, iv v_f1, iv v_f2, iv v_c, iv v_fc, rv b1, rv b2, iv (xf + (1 : Int32)), iv (xf + (2 : Int32)), rv vq212, rv vq218, .unset, .unset, .unset, .unset] [(.ref r1q212)] _
        refine XS.astore X229.here hx rfl (hb hby at_284) rfl rfl (l' := #[iv xf, iv xg, .val (.long xt), .second, .val (.long xq), .second, .val (.long xc), .second, iv bg, iv od, iv v_x, iv v_y, iv v_b1, iv v_b2, iv v_f1, iv v_f2, iv v_c, iv v_fc, rv b1, rv b2, iv (xf + (1 : Int32)), iv (xf + (2 : Int32)), rv vq212, rv vq218, rv r1q212, .unset, .unset, .unset]) rfl ?_
        show own_At p e below T229 m 286 #[iv xf, iv xg, .val (.long xt), .second, .val (.long xq), .second, .val (.long xc), .second, iv bg, iv od, iv v_x, iv v_y, iv v_b1, iv v_b2, iv v_f1, iv v_f2, iv v_c, iv v_fc, rv b1, rv b2, iv (xf + (1 : Int32)), iv (xf + (2 : Int32)), rv vq212, rv vq218, rv r1q212, .unset, .unset, .unset] [] _
        refine XS.aload X229.here hx rfl (hb hby at_286) rfl rfl ?_
        show own_At p e below T229 m 288 #[iv xf, iv xg, .val (.long xt), .second, .val (.long xq), .second, .val (.long xc), .second, iv bg, iv od, iv v_x, iv v_y, iv v_b1, iv v_b2, iv v_f1, iv v_f2, iv v_c, iv v_fc, rv b1, rv b2, iv (xf + (1 : Int32)), iv (xf + (2 : Int32)), rv vq212, rv vq218, rv r1q212, .unset, .unset, .unset] [(.ref vq212)] _
        exact kt)
      obtain ⟨cq232, kq232, q232a, q232b, q232c⟩ := isOf hZ eq229 f220
      obtain ⟨_, _, ⟨T232, L232, k232, n232⟩, -, X232, ⟨Lc232, hQ232, l232, y232, z232⟩, ls232⟩ := X229.virtualBack hx (y := (⟨"com/example/ranked_text_search/rankedtextsearch/TermVectors$Vector", "frequencies", "()[I"⟩ : MethodName)) (z := (⟨"com/example/ranked_text_search/rankedtextsearch/TermVectors$Vector", "frequencies", "()[I"⟩ : MethodName)) hown (mvT hZ (hw _ (List.mem_of_getElem? (i := 81) rfl))) (mvT hZ (hw _ (List.mem_of_getElem? (i := 82) rfl))) (notFace_of_selects (args := #[]) (mvT hZ (hw _ (List.mem_of_getElem? (i := 84) rfl)))) (mvT hZ (hw _ (List.mem_of_getElem? (i := 84) rfl))) (mvT hZ (hw _ (List.mem_of_getElem? (i := 83) rfl))) (by decide) (backOf (W := 0) (rm_acc_frequencies l Z a0 hw [] vq212 r2q212 T218.heap n0 z225 f223) hZ (hw _ (List.mem_of_getElem? (i := 85) rfl)) (hw _ (List.mem_of_getElem? (i := 58) rfl)) (by decide) (by decide)) q232a q232c (g := (mkF m 288 #[iv xf, iv xg, .val (.long xt), .second, .val (.long xq), .second, .val (.long xc), .second, iv bg, iv od, iv v_x, iv v_y, iv v_b1, iv v_b2, iv v_f1, iv v_f2, iv v_c, iv v_fc, rv b1, rv b2, iv (xf + (1 : Int32)), iv (xf + (2 : Int32)), rv vq212, rv vq218, rv r1q212, .unset, .unset, .unset] [(.ref vq212)])) rfl (by rw [hml]; rfl) (Steps.refl _) (argsL := []) (rest := []) (lenOf own_pd9 rfl) rfl (by show 2 * 0 + _ ≤ _; exact Nat.le_of_eq rfl) (hb hby at_288) (fun _ _ => ⟨rfl, eq229, (by decide : 16 + 0 ≤ _), (by decide : 32815 + 0 ≤ _)⟩)
      dsimp only [Pt.U, Pt.locs, Pt.cells, Pt.slots] at X232 l232 y232 z232 ls232 hQ232
      subst l232 y232 z232
      obtain ⟨rfl, Nq232, eq232⟩ := hQ232
      have N232 := Fr.app N229 Nq232
      have st233 : own_Go p e below (T232.setTop (mkF m 291 #[iv xf, iv xg, .val (.long xt), .second, .val (.long xq), .second, .val (.long xc), .second, iv bg, iv od, iv v_x, iv v_y, iv v_b1, iv v_b2, iv v_f1, iv v_f2, iv v_c, iv v_fc, rv b1, rv b2, iv (xf + (1 : Int32)), iv (xf + (2 : Int32)), rv vq212, rv vq218, rv r1q212, .unset, .unset, .unset] [(.ref r2q212)])) B0 := fun t kt => st231 t (ls232.trans kt)
      have st234 : own_Go p e below (T232.setTop (mkF m 295 #[iv xf, iv xg, .val (.long xt), .second, .val (.long xq), .second, .val (.long xc), .second, iv bg, iv od, iv v_x, iv v_y, iv v_b1, iv v_b2, iv v_f1, iv v_f2, iv v_c, iv v_fc, rv b1, rv b2, iv (xf + (1 : Int32)), iv (xf + (2 : Int32)), rv vq212, rv vq218, rv r1q212, rv r2q212, .unset, .unset] [(.ref vq218)])) B0 := fun t kt => st233 t (by
        show own_At p e below T232 m 291 #[iv xf, iv xg, .val (.long xt), .second, .val (.long xq), .second, .val (.long xc), .second, iv bg, iv od, iv v_x, iv v_y, iv v_b1, iv v_b2, iv v_f1, iv v_f2, iv v_c, iv v_fc, rv b1, rv b2, iv (xf + (1 : Int32)), iv (xf + (2 : Int32)), rv vq212, rv vq218, rv r1q212, .unset, .unset, .unset] [(.ref r2q212)] _
        refine XS.astore X232.here hx rfl (hb hby at_291) rfl rfl (l' := #[iv xf, iv xg, .val (.long xt), .second, .val (.long xq), .second, .val (.long xc), .second, iv bg, iv od, iv v_x, iv v_y, iv v_b1, iv v_b2, iv v_f1, iv v_f2, iv v_c, iv v_fc, rv b1, rv b2, iv (xf + (1 : Int32)), iv (xf + (2 : Int32)), rv vq212, rv vq218, rv r1q212, rv r2q212, .unset, .unset]) rfl ?_
        show own_At p e below T232 m 293 #[iv xf, iv xg, .val (.long xt), .second, .val (.long xq), .second, .val (.long xc), .second, iv bg, iv od, iv v_x, iv v_y, iv v_b1, iv v_b2, iv v_f1, iv v_f2, iv v_c, iv v_fc, rv b1, rv b2, iv (xf + (1 : Int32)), iv (xf + (2 : Int32)), rv vq212, rv vq218, rv r1q212, rv r2q212, .unset, .unset] [] _
        refine XS.aload X232.here hx rfl (hb hby at_293) rfl rfl ?_
        show own_At p e below T232 m 295 #[iv xf, iv xg, .val (.long xt), .second, .val (.long xq), .second, .val (.long xc), .second, iv bg, iv od, iv v_x, iv v_y, iv v_b1, iv v_b2, iv v_f1, iv v_f2, iv v_c, iv v_fc, rv b1, rv b2, iv (xf + (1 : Int32)), iv (xf + (2 : Int32)), rv vq212, rv vq218, rv r1q212, rv r2q212, .unset, .unset] [(.ref vq218)] _
        exact kt)
      obtain ⟨cq235, kq235, q235a, q235b, q235c⟩ := isOf hZ eq232 Ev218
      obtain ⟨_, _, ⟨T235, L235, k235, n235⟩, -, X235, ⟨Lc235, hQ235, l235, y235, z235⟩, ls235⟩ := X232.virtualBack hx (y := (⟨"com/example/ranked_text_search/rankedtextsearch/TermVectors$Vector", "termNumbers", "()[I"⟩ : MethodName)) (z := (⟨"com/example/ranked_text_search/rankedtextsearch/TermVectors$Vector", "termNumbers", "()[I"⟩ : MethodName)) hown (mvT hZ (hw _ (List.mem_of_getElem? (i := 76) rfl))) (mvT hZ (hw _ (List.mem_of_getElem? (i := 77) rfl))) (notFace_of_selects (args := #[]) (mvT hZ (hw _ (List.mem_of_getElem? (i := 79) rfl)))) (mvT hZ (hw _ (List.mem_of_getElem? (i := 79) rfl))) (mvT hZ (hw _ (List.mem_of_getElem? (i := 78) rfl))) (by decide) (backOf (W := 0) (rm_acc_termNumbers l Z a0 hw [] vq218 r1q218 T218.heap n0 z225 Fr1q218) hZ (hw _ (List.mem_of_getElem? (i := 80) rfl)) (hw _ (List.mem_of_getElem? (i := 58) rfl)) (by decide) (by decide)) q235a q235c (g := (mkF m 295 #[iv xf, iv xg, .val (.long xt), .second, .val (.long xq), .second, .val (.long xc), .second, iv bg, iv od, iv v_x, iv v_y, iv v_b1, iv v_b2, iv v_f1, iv v_f2, iv v_c, iv v_fc, rv b1, rv b2, iv (xf + (1 : Int32)), iv (xf + (2 : Int32)), rv vq212, rv vq218, rv r1q212, rv r2q212, .unset, .unset] [(.ref vq218)])) rfl (by rw [hml]; rfl) (Steps.refl _) (argsL := []) (rest := []) (lenOf own_pd9 rfl) rfl (by show 2 * 0 + _ ≤ _; exact Nat.le_of_eq rfl) (hb hby at_295) (fun _ _ => ⟨rfl, eq232, (by decide : 16 + 0 ≤ _), (by decide : 32815 + 0 ≤ _)⟩)
      dsimp only [Pt.U, Pt.locs, Pt.cells, Pt.slots] at X235 l235 y235 z235 ls235 hQ235
      subst l235 y235 z235
      obtain ⟨rfl, Nq235, eq235⟩ := hQ235
      have N235 := Fr.app N232 Nq235
      have st236 : own_Go p e below (T235.setTop (mkF m 298 #[iv xf, iv xg, .val (.long xt), .second, .val (.long xq), .second, .val (.long xc), .second, iv bg, iv od, iv v_x, iv v_y, iv v_b1, iv v_b2, iv v_f1, iv v_f2, iv v_c, iv v_fc, rv b1, rv b2, iv (xf + (1 : Int32)), iv (xf + (2 : Int32)), rv vq212, rv vq218, rv r1q212, rv r2q212, .unset, .unset] [(.ref r1q218)])) B0 := fun t kt => st234 t (ls235.trans kt)
      have st237 : own_Go p e below (T235.setTop (mkF m 302 #[iv xf, iv xg, .val (.long xt), .second, .val (.long xq), .second, .val (.long xc), .second, iv bg, iv od, iv v_x, iv v_y, iv v_b1, iv v_b2, iv v_f1, iv v_f2, iv v_c, iv v_fc, rv b1, rv b2, iv (xf + (1 : Int32)), iv (xf + (2 : Int32)), rv vq212, rv vq218, rv r1q212, rv r2q212, rv r1q218, .unset] [(.ref vq218)])) B0 := fun t kt => st236 t (by
        show own_At p e below T235 m 298 #[iv xf, iv xg, .val (.long xt), .second, .val (.long xq), .second, .val (.long xc), .second, iv bg, iv od, iv v_x, iv v_y, iv v_b1, iv v_b2, iv v_f1, iv v_f2, iv v_c, iv v_fc, rv b1, rv b2, iv (xf + (1 : Int32)), iv (xf + (2 : Int32)), rv vq212, rv vq218, rv r1q212, rv r2q212, .unset, .unset] [(.ref r1q218)] _
        refine XS.astore X235.here hx rfl (hb hby at_298) rfl rfl (l' := #[iv xf, iv xg, .val (.long xt), .second, .val (.long xq), .second, .val (.long xc), .second, iv bg, iv od, iv v_x, iv v_y, iv v_b1, iv v_b2, iv v_f1, iv v_f2, iv v_c, iv v_fc, rv b1, rv b2, iv (xf + (1 : Int32)), iv (xf + (2 : Int32)), rv vq212, rv vq218, rv r1q212, rv r2q212, rv r1q218, .unset]) rfl ?_
        show own_At p e below T235 m 300 #[iv xf, iv xg, .val (.long xt), .second, .val (.long xq), .second, .val (.long xc), .second, iv bg, iv od, iv v_x, iv v_y, iv v_b1, iv v_b2, iv v_f1, iv v_f2, iv v_c, iv v_fc, rv b1, rv b2, iv (xf + (1 : Int32)), iv (xf + (2 : Int32)), rv vq212, rv vq218, rv r1q212, rv r2q212, rv r1q218, .unset] [] _
        refine XS.aload X235.here hx rfl (hb hby at_300) rfl rfl ?_
        show own_At p e below T235 m 302 #[iv xf, iv xg, .val (.long xt), .second, .val (.long xq), .second, .val (.long xc), .second, iv bg, iv od, iv v_x, iv v_y, iv v_b1, iv v_b2, iv v_f1, iv v_f2, iv v_c, iv v_fc, rv b1, rv b2, iv (xf + (1 : Int32)), iv (xf + (2 : Int32)), rv vq212, rv vq218, rv r1q212, rv r2q212, rv r1q218, .unset] [(.ref vq218)] _
        exact kt)
      obtain ⟨cq238, kq238, q238a, q238b, q238c⟩ := isOf hZ eq235 Ev218
      obtain ⟨_, _, ⟨T238, L238, k238, n238⟩, -, X238, ⟨Lc238, hQ238, l238, y238, z238⟩, ls238⟩ := X235.virtualBack hx (y := (⟨"com/example/ranked_text_search/rankedtextsearch/TermVectors$Vector", "frequencies", "()[I"⟩ : MethodName)) (z := (⟨"com/example/ranked_text_search/rankedtextsearch/TermVectors$Vector", "frequencies", "()[I"⟩ : MethodName)) hown (mvT hZ (hw _ (List.mem_of_getElem? (i := 81) rfl))) (mvT hZ (hw _ (List.mem_of_getElem? (i := 82) rfl))) (notFace_of_selects (args := #[]) (mvT hZ (hw _ (List.mem_of_getElem? (i := 84) rfl)))) (mvT hZ (hw _ (List.mem_of_getElem? (i := 84) rfl))) (mvT hZ (hw _ (List.mem_of_getElem? (i := 83) rfl))) (by decide) (backOf (W := 0) (rm_acc_frequencies l Z a0 hw [] vq218 r2q218 T218.heap n0 z225 Fr2q218) hZ (hw _ (List.mem_of_getElem? (i := 85) rfl)) (hw _ (List.mem_of_getElem? (i := 58) rfl)) (by decide) (by decide)) q238a q238c (g := (mkF m 302 #[iv xf, iv xg, .val (.long xt), .second, .val (.long xq), .second, .val (.long xc), .second, iv bg, iv od, iv v_x, iv v_y, iv v_b1, iv v_b2, iv v_f1, iv v_f2, iv v_c, iv v_fc, rv b1, rv b2, iv (xf + (1 : Int32)), iv (xf + (2 : Int32)), rv vq212, rv vq218, rv r1q212, rv r2q212, rv r1q218, .unset] [(.ref vq218)])) rfl (by rw [hml]; rfl) (Steps.refl _) (argsL := []) (rest := []) (lenOf own_pd9 rfl) rfl (by show 2 * 0 + _ ≤ _; exact Nat.le_of_eq rfl) (hb hby at_302) (fun _ _ => ⟨rfl, eq235, (by decide : 16 + 0 ≤ _), (by decide : 32815 + 0 ≤ _)⟩)
      dsimp only [Pt.U, Pt.locs, Pt.cells, Pt.slots] at X238 l238 y238 z238 ls238 hQ238
      subst l238 y238 z238
      obtain ⟨rfl, Nq238, eq238⟩ := hQ238
      have N238 := Fr.app N235 Nq238
      have st239 : own_Go p e below (T238.setTop (mkF m 305 #[iv xf, iv xg, .val (.long xt), .second, .val (.long xq), .second, .val (.long xc), .second, iv bg, iv od, iv v_x, iv v_y, iv v_b1, iv v_b2, iv v_f1, iv v_f2, iv v_c, iv v_fc, rv b1, rv b2, iv (xf + (1 : Int32)), iv (xf + (2 : Int32)), rv vq212, rv vq218, rv r1q212, rv r2q212, rv r1q218, .unset] [(.ref r2q218)])) B0 := fun t kt => st237 t (ls238.trans kt)
      have st240 : own_Go p e below (T238.setTop (mkF m 309 #[iv xf, iv xg, .val (.long xt), .second, .val (.long xq), .second, .val (.long xc), .second, iv bg, iv od, iv v_x, iv v_y, iv v_b1, iv v_b2, iv v_f1, iv v_f2, iv v_c, iv v_fc, rv b1, rv b2, iv (xf + (1 : Int32)), iv (xf + (2 : Int32)), rv vq212, rv vq218, rv r1q212, rv r2q212, rv r1q218, rv r2q218] [(.ref r1q212)])) B0 := fun t kt => st239 t (by
        show own_At p e below T238 m 305 #[iv xf, iv xg, .val (.long xt), .second, .val (.long xq), .second, .val (.long xc), .second, iv bg, iv od, iv v_x, iv v_y, iv v_b1, iv v_b2, iv v_f1, iv v_f2, iv v_c, iv v_fc, rv b1, rv b2, iv (xf + (1 : Int32)), iv (xf + (2 : Int32)), rv vq212, rv vq218, rv r1q212, rv r2q212, rv r1q218, .unset] [(.ref r2q218)] _
        refine XS.astore X238.here hx rfl (hb hby at_305) rfl rfl (l' := #[iv xf, iv xg, .val (.long xt), .second, .val (.long xq), .second, .val (.long xc), .second, iv bg, iv od, iv v_x, iv v_y, iv v_b1, iv v_b2, iv v_f1, iv v_f2, iv v_c, iv v_fc, rv b1, rv b2, iv (xf + (1 : Int32)), iv (xf + (2 : Int32)), rv vq212, rv vq218, rv r1q212, rv r2q212, rv r1q218, rv r2q218]) rfl ?_
        show own_At p e below T238 m 307 #[iv xf, iv xg, .val (.long xt), .second, .val (.long xq), .second, .val (.long xc), .second, iv bg, iv od, iv v_x, iv v_y, iv v_b1, iv v_b2, iv v_f1, iv v_f2, iv v_c, iv v_fc, rv b1, rv b2, iv (xf + (1 : Int32)), iv (xf + (2 : Int32)), rv vq212, rv vq218, rv r1q212, rv r2q212, rv r1q218, rv r2q218] [] _
        refine XS.aload X238.here hx rfl (hb hby at_307) rfl rfl ?_
        show own_At p e below T238 m 309 #[iv xf, iv xg, .val (.long xt), .second, .val (.long xq), .second, .val (.long xc), .second, iv bg, iv od, iv v_x, iv v_y, iv v_b1, iv v_b2, iv v_f1, iv v_f2, iv v_c, iv v_fc, rv b1, rv b2, iv (xf + (1 : Int32)), iv (xf + (2 : Int32)), rv vq212, rv vq218, rv r1q212, rv r2q212, rv r1q218, rv r2q218] [(.ref r1q212)] _
        exact kt)
      have ls241 := own_alen X238 hx hZ eq238 f222 (g := (mkF m 309 #[iv xf, iv xg, .val (.long xt), .second, .val (.long xq), .second, .val (.long xc), .second, iv bg, iv od, iv v_x, iv v_y, iv v_b1, iv v_b2, iv v_f1, iv v_f2, iv v_c, iv v_fc, rv b1, rv b2, iv (xf + (1 : Int32)), iv (xf + (2 : Int32)), rv vq212, rv vq218, rv r1q212, rv r2q212, rv r1q218, rv r2q218] [(.ref r1q212)])) rfl rfl (hb hby at_309)
      have st242 : own_Go p e below (T238.setTop (mkF m 310 #[iv xf, iv xg, .val (.long xt), .second, .val (.long xq), .second, .val (.long xc), .second, iv bg, iv od, iv v_x, iv v_y, iv v_b1, iv v_b2, iv v_f1, iv v_f2, iv v_c, iv v_fc, rv b1, rv b2, iv (xf + (1 : Int32)), iv (xf + (2 : Int32)), rv vq212, rv vq218, rv r1q212, rv r2q212, rv r1q218, rv r2q218] [(.int (2 : Int32))])) B0 := fun t kt => st240 t (ls241 t kt)
      have hc243 : (2 : Int32) = (2 : Int32) := rfl
      have st244 : own_Go p e below (T238.setTop (mkF m 316 #[iv xf, iv xg, .val (.long xt), .second, .val (.long xq), .second, .val (.long xc), .second, iv bg, iv od, iv v_x, iv v_y, iv v_b1, iv v_b2, iv v_f1, iv v_f2, iv v_c, iv v_fc, rv b1, rv b2, iv (xf + (1 : Int32)), iv (xf + (2 : Int32)), rv vq212, rv vq218, rv r1q212, rv r2q212, rv r1q218, rv r2q218] [(.ref r2q212)])) B0 := fun t kt => st242 t (by
        show own_At p e below T238 m 310 #[iv xf, iv xg, .val (.long xt), .second, .val (.long xq), .second, .val (.long xc), .second, iv bg, iv od, iv v_x, iv v_y, iv v_b1, iv v_b2, iv v_f1, iv v_f2, iv v_c, iv v_fc, rv b1, rv b2, iv (xf + (1 : Int32)), iv (xf + (2 : Int32)), rv vq212, rv vq218, rv r1q212, rv r2q212, rv r1q218, rv r2q218] [(.int (2 : Int32))] _
        refine XS.iconst X238.here hx rfl (hb hby at_310) ?_
        show own_At p e below T238 m 311 #[iv xf, iv xg, .val (.long xt), .second, .val (.long xq), .second, .val (.long xc), .second, iv bg, iv od, iv v_x, iv v_y, iv v_b1, iv v_b2, iv v_f1, iv v_f2, iv v_c, iv v_fc, rv b1, rv b2, iv (xf + (1 : Int32)), iv (xf + (2 : Int32)), rv vq212, rv vq218, rv r1q212, rv r2q212, rv r1q218, rv r2q218] [(.int (2 : Int32)), (.int (2 : Int32))] _
        refine XS.icmpNo X238.here hx rfl (hb hby at_311) rfl (teq hc243).2 ?_
        show own_At p e below T238 m 314 #[iv xf, iv xg, .val (.long xt), .second, .val (.long xq), .second, .val (.long xc), .second, iv bg, iv od, iv v_x, iv v_y, iv v_b1, iv v_b2, iv v_f1, iv v_f2, iv v_c, iv v_fc, rv b1, rv b2, iv (xf + (1 : Int32)), iv (xf + (2 : Int32)), rv vq212, rv vq218, rv r1q212, rv r2q212, rv r1q218, rv r2q218] [] _
        refine XS.aload X238.here hx rfl (hb hby at_314) rfl rfl ?_
        show own_At p e below T238 m 316 #[iv xf, iv xg, .val (.long xt), .second, .val (.long xq), .second, .val (.long xc), .second, iv bg, iv od, iv v_x, iv v_y, iv v_b1, iv v_b2, iv v_f1, iv v_f2, iv v_c, iv v_fc, rv b1, rv b2, iv (xf + (1 : Int32)), iv (xf + (2 : Int32)), rv vq212, rv vq218, rv r1q212, rv r2q212, rv r1q218, rv r2q218] [(.ref r2q212)] _
        exact kt)
      have ls245 := own_alen X238 hx hZ eq238 f224 (g := (mkF m 316 #[iv xf, iv xg, .val (.long xt), .second, .val (.long xq), .second, .val (.long xc), .second, iv bg, iv od, iv v_x, iv v_y, iv v_b1, iv v_b2, iv v_f1, iv v_f2, iv v_c, iv v_fc, rv b1, rv b2, iv (xf + (1 : Int32)), iv (xf + (2 : Int32)), rv vq212, rv vq218, rv r1q212, rv r2q212, rv r1q218, rv r2q218] [(.ref r2q212)])) rfl rfl (hb hby at_316)
      have st246 : own_Go p e below (T238.setTop (mkF m 317 #[iv xf, iv xg, .val (.long xt), .second, .val (.long xq), .second, .val (.long xc), .second, iv bg, iv od, iv v_x, iv v_y, iv v_b1, iv v_b2, iv v_f1, iv v_f2, iv v_c, iv v_fc, rv b1, rv b2, iv (xf + (1 : Int32)), iv (xf + (2 : Int32)), rv vq212, rv vq218, rv r1q212, rv r2q212, rv r1q218, rv r2q218] [(.int (2 : Int32))])) B0 := fun t kt => st244 t (ls245 t kt)
      have hc247 : (2 : Int32) = (2 : Int32) := rfl
      have st248 : own_Go p e below (T238.setTop (mkF m 323 #[iv xf, iv xg, .val (.long xt), .second, .val (.long xq), .second, .val (.long xc), .second, iv bg, iv od, iv v_x, iv v_y, iv v_b1, iv v_b2, iv v_f1, iv v_f2, iv v_c, iv v_fc, rv b1, rv b2, iv (xf + (1 : Int32)), iv (xf + (2 : Int32)), rv vq212, rv vq218, rv r1q212, rv r2q212, rv r1q218, rv r2q218] [(.ref r1q218)])) B0 := fun t kt => st246 t (by
        show own_At p e below T238 m 317 #[iv xf, iv xg, .val (.long xt), .second, .val (.long xq), .second, .val (.long xc), .second, iv bg, iv od, iv v_x, iv v_y, iv v_b1, iv v_b2, iv v_f1, iv v_f2, iv v_c, iv v_fc, rv b1, rv b2, iv (xf + (1 : Int32)), iv (xf + (2 : Int32)), rv vq212, rv vq218, rv r1q212, rv r2q212, rv r1q218, rv r2q218] [(.int (2 : Int32))] _
        refine XS.iconst X238.here hx rfl (hb hby at_317) ?_
        show own_At p e below T238 m 318 #[iv xf, iv xg, .val (.long xt), .second, .val (.long xq), .second, .val (.long xc), .second, iv bg, iv od, iv v_x, iv v_y, iv v_b1, iv v_b2, iv v_f1, iv v_f2, iv v_c, iv v_fc, rv b1, rv b2, iv (xf + (1 : Int32)), iv (xf + (2 : Int32)), rv vq212, rv vq218, rv r1q212, rv r2q212, rv r1q218, rv r2q218] [(.int (2 : Int32)), (.int (2 : Int32))] _
        refine XS.icmpNo X238.here hx rfl (hb hby at_318) rfl (teq hc247).2 ?_
        show own_At p e below T238 m 321 #[iv xf, iv xg, .val (.long xt), .second, .val (.long xq), .second, .val (.long xc), .second, iv bg, iv od, iv v_x, iv v_y, iv v_b1, iv v_b2, iv v_f1, iv v_f2, iv v_c, iv v_fc, rv b1, rv b2, iv (xf + (1 : Int32)), iv (xf + (2 : Int32)), rv vq212, rv vq218, rv r1q212, rv r2q212, rv r1q218, rv r2q218] [] _
        refine XS.aload X238.here hx rfl (hb hby at_321) rfl rfl ?_
        show own_At p e below T238 m 323 #[iv xf, iv xg, .val (.long xt), .second, .val (.long xq), .second, .val (.long xc), .second, iv bg, iv od, iv v_x, iv v_y, iv v_b1, iv v_b2, iv v_f1, iv v_f2, iv v_c, iv v_fc, rv b1, rv b2, iv (xf + (1 : Int32)), iv (xf + (2 : Int32)), rv vq212, rv vq218, rv r1q212, rv r2q212, rv r1q218, rv r2q218] [(.ref r1q218)] _
        exact kt)
      have ls249 := own_alen X238 hx hZ eq238 Ar1q218 (g := (mkF m 323 #[iv xf, iv xg, .val (.long xt), .second, .val (.long xq), .second, .val (.long xc), .second, iv bg, iv od, iv v_x, iv v_y, iv v_b1, iv v_b2, iv v_f1, iv v_f2, iv v_c, iv v_fc, rv b1, rv b2, iv (xf + (1 : Int32)), iv (xf + (2 : Int32)), rv vq212, rv vq218, rv r1q212, rv r2q212, rv r1q218, rv r2q218] [(.ref r1q218)])) rfl rfl (hb hby at_323)
      have st250 : own_Go p e below (T238.setTop (mkF m 324 #[iv xf, iv xg, .val (.long xt), .second, .val (.long xq), .second, .val (.long xc), .second, iv bg, iv od, iv v_x, iv v_y, iv v_b1, iv v_b2, iv v_f1, iv v_f2, iv v_c, iv v_fc, rv b1, rv b2, iv (xf + (1 : Int32)), iv (xf + (2 : Int32)), rv vq212, rv vq218, rv r1q212, rv r2q212, rv r1q218, rv r2q218] [(.int (1 : Int32))])) B0 := fun t kt => st248 t (ls249 t kt)
      have hc251 : (1 : Int32) = (1 : Int32) := rfl
      have st252 : own_Go p e below (T238.setTop (mkF m 330 #[iv xf, iv xg, .val (.long xt), .second, .val (.long xq), .second, .val (.long xc), .second, iv bg, iv od, iv v_x, iv v_y, iv v_b1, iv v_b2, iv v_f1, iv v_f2, iv v_c, iv v_fc, rv b1, rv b2, iv (xf + (1 : Int32)), iv (xf + (2 : Int32)), rv vq212, rv vq218, rv r1q212, rv r2q212, rv r1q218, rv r2q218] [(.ref r2q218)])) B0 := fun t kt => st250 t (by
        show own_At p e below T238 m 324 #[iv xf, iv xg, .val (.long xt), .second, .val (.long xq), .second, .val (.long xc), .second, iv bg, iv od, iv v_x, iv v_y, iv v_b1, iv v_b2, iv v_f1, iv v_f2, iv v_c, iv v_fc, rv b1, rv b2, iv (xf + (1 : Int32)), iv (xf + (2 : Int32)), rv vq212, rv vq218, rv r1q212, rv r2q212, rv r1q218, rv r2q218] [(.int (1 : Int32))] _
        refine XS.iconst X238.here hx rfl (hb hby at_324) ?_
        show own_At p e below T238 m 325 #[iv xf, iv xg, .val (.long xt), .second, .val (.long xq), .second, .val (.long xc), .second, iv bg, iv od, iv v_x, iv v_y, iv v_b1, iv v_b2, iv v_f1, iv v_f2, iv v_c, iv v_fc, rv b1, rv b2, iv (xf + (1 : Int32)), iv (xf + (2 : Int32)), rv vq212, rv vq218, rv r1q212, rv r2q212, rv r1q218, rv r2q218] [(.int (1 : Int32)), (.int (1 : Int32))] _
        refine XS.icmpNo X238.here hx rfl (hb hby at_325) rfl (teq hc251).2 ?_
        show own_At p e below T238 m 328 #[iv xf, iv xg, .val (.long xt), .second, .val (.long xq), .second, .val (.long xc), .second, iv bg, iv od, iv v_x, iv v_y, iv v_b1, iv v_b2, iv v_f1, iv v_f2, iv v_c, iv v_fc, rv b1, rv b2, iv (xf + (1 : Int32)), iv (xf + (2 : Int32)), rv vq212, rv vq218, rv r1q212, rv r2q212, rv r1q218, rv r2q218] [] _
        refine XS.aload X238.here hx rfl (hb hby at_328) rfl rfl ?_
        show own_At p e below T238 m 330 #[iv xf, iv xg, .val (.long xt), .second, .val (.long xq), .second, .val (.long xc), .second, iv bg, iv od, iv v_x, iv v_y, iv v_b1, iv v_b2, iv v_f1, iv v_f2, iv v_c, iv v_fc, rv b1, rv b2, iv (xf + (1 : Int32)), iv (xf + (2 : Int32)), rv vq212, rv vq218, rv r1q212, rv r2q212, rv r1q218, rv r2q218] [(.ref r2q218)] _
        exact kt)
      have ls253 := own_alen X238 hx hZ eq238 Ar2q218 (g := (mkF m 330 #[iv xf, iv xg, .val (.long xt), .second, .val (.long xq), .second, .val (.long xc), .second, iv bg, iv od, iv v_x, iv v_y, iv v_b1, iv v_b2, iv v_f1, iv v_f2, iv v_c, iv v_fc, rv b1, rv b2, iv (xf + (1 : Int32)), iv (xf + (2 : Int32)), rv vq212, rv vq218, rv r1q212, rv r2q212, rv r1q218, rv r2q218] [(.ref r2q218)])) rfl rfl (hb hby at_330)
      have st254 : own_Go p e below (T238.setTop (mkF m 331 #[iv xf, iv xg, .val (.long xt), .second, .val (.long xq), .second, .val (.long xc), .second, iv bg, iv od, iv v_x, iv v_y, iv v_b1, iv v_b2, iv v_f1, iv v_f2, iv v_c, iv v_fc, rv b1, rv b2, iv (xf + (1 : Int32)), iv (xf + (2 : Int32)), rv vq212, rv vq218, rv r1q212, rv r2q212, rv r1q218, rv r2q218] [(.int (1 : Int32))])) B0 := fun t kt => st252 t (ls253 t kt)
      have hc255 : (1 : Int32) = (1 : Int32) := rfl
      have st256 : own_Go p e below (T238.setTop (mkF m 338 #[iv xf, iv xg, .val (.long xt), .second, .val (.long xq), .second, .val (.long xc), .second, iv bg, iv od, iv v_x, iv v_y, iv v_b1, iv v_b2, iv v_f1, iv v_f2, iv v_c, iv v_fc, rv b1, rv b2, iv (xf + (1 : Int32)), iv (xf + (2 : Int32)), rv vq212, rv vq218, rv r1q212, rv r2q212, rv r1q218, rv r2q218] [(.int (0 : Int32)), (.ref r1q212)])) B0 := fun t kt => st254 t (by
        show own_At p e below T238 m 331 #[iv xf, iv xg, .val (.long xt), .second, .val (.long xq), .second, .val (.long xc), .second, iv bg, iv od, iv v_x, iv v_y, iv v_b1, iv v_b2, iv v_f1, iv v_f2, iv v_c, iv v_fc, rv b1, rv b2, iv (xf + (1 : Int32)), iv (xf + (2 : Int32)), rv vq212, rv vq218, rv r1q212, rv r2q212, rv r1q218, rv r2q218] [(.int (1 : Int32))] _
        refine XS.iconst X238.here hx rfl (hb hby at_331) ?_
        show own_At p e below T238 m 332 #[iv xf, iv xg, .val (.long xt), .second, .val (.long xq), .second, .val (.long xc), .second, iv bg, iv od, iv v_x, iv v_y, iv v_b1, iv v_b2, iv v_f1, iv v_f2, iv v_c, iv v_fc, rv b1, rv b2, iv (xf + (1 : Int32)), iv (xf + (2 : Int32)), rv vq212, rv vq218, rv r1q212, rv r2q212, rv r1q218, rv r2q218] [(.int (1 : Int32)), (.int (1 : Int32))] _
        refine XS.icmpNo X238.here hx rfl (hb hby at_332) rfl (teq hc255).2 ?_
        show own_At p e below T238 m 335 #[iv xf, iv xg, .val (.long xt), .second, .val (.long xq), .second, .val (.long xc), .second, iv bg, iv od, iv v_x, iv v_y, iv v_b1, iv v_b2, iv v_f1, iv v_f2, iv v_c, iv v_fc, rv b1, rv b2, iv (xf + (1 : Int32)), iv (xf + (2 : Int32)), rv vq212, rv vq218, rv r1q212, rv r2q212, rv r1q218, rv r2q218] [] _
        refine XS.aload X238.here hx rfl (hb hby at_335) rfl rfl ?_
        show own_At p e below T238 m 337 #[iv xf, iv xg, .val (.long xt), .second, .val (.long xq), .second, .val (.long xc), .second, iv bg, iv od, iv v_x, iv v_y, iv v_b1, iv v_b2, iv v_f1, iv v_f2, iv v_c, iv v_fc, rv b1, rv b2, iv (xf + (1 : Int32)), iv (xf + (2 : Int32)), rv vq212, rv vq218, rv r1q212, rv r2q212, rv r1q218, rv r2q218] [(.ref r1q212)] _
        refine XS.iconst X238.here hx rfl (hb hby at_337) ?_
        show own_At p e below T238 m 338 #[iv xf, iv xg, .val (.long xt), .second, .val (.long xq), .second, .val (.long xc), .second, iv bg, iv od, iv v_x, iv v_y, iv v_b1, iv v_b2, iv v_f1, iv v_f2, iv v_c, iv v_fc, rv b1, rv b2, iv (xf + (1 : Int32)), iv (xf + (2 : Int32)), rv vq212, rv vq218, rv r1q212, rv r2q212, rv r1q218, rv r2q218] [(.int (0 : Int32)), (.ref r1q212)] _
        exact kt)
      have ls257 := own_iaload X238 hx hZ eq238 f222 (j := (0 : Int32)) (i := 0) (by decide) (by decide) (by decide) (v := (.int v_b1)) (rfl) (g := (mkF m 338 #[iv xf, iv xg, .val (.long xt), .second, .val (.long xq), .second, .val (.long xc), .second, iv bg, iv od, iv v_x, iv v_y, iv v_b1, iv v_b2, iv v_f1, iv v_f2, iv v_c, iv v_fc, rv b1, rv b2, iv (xf + (1 : Int32)), iv (xf + (2 : Int32)), rv vq212, rv vq218, rv r1q212, rv r2q212, rv r1q218, rv r2q218] [(.int (0 : Int32)), (.ref r1q212)])) rfl rfl (hb hby at_338)
      have st258 : own_Go p e below (T238.setTop (mkF m 339 #[iv xf, iv xg, .val (.long xt), .second, .val (.long xq), .second, .val (.long xc), .second, iv bg, iv od, iv v_x, iv v_y, iv v_b1, iv v_b2, iv v_f1, iv v_f2, iv v_c, iv v_fc, rv b1, rv b2, iv (xf + (1 : Int32)), iv (xf + (2 : Int32)), rv vq212, rv vq218, rv r1q212, rv r2q212, rv r1q218, rv r2q218] [(.int v_b1)])) B0 := fun t kt => st256 t (ls257 t kt)
      have hc259 : v_b1 = v_b1 := rfl
      have st260 : own_Go p e below (T238.setTop (mkF m 347 #[iv xf, iv xg, .val (.long xt), .second, .val (.long xq), .second, .val (.long xc), .second, iv bg, iv od, iv v_x, iv v_y, iv v_b1, iv v_b2, iv v_f1, iv v_f2, iv v_c, iv v_fc, rv b1, rv b2, iv (xf + (1 : Int32)), iv (xf + (2 : Int32)), rv vq212, rv vq218, rv r1q212, rv r2q212, rv r1q218, rv r2q218] [(.int (1 : Int32)), (.ref r1q212)])) B0 := fun t kt => st258 t (by
        show own_At p e below T238 m 339 #[iv xf, iv xg, .val (.long xt), .second, .val (.long xq), .second, .val (.long xc), .second, iv bg, iv od, iv v_x, iv v_y, iv v_b1, iv v_b2, iv v_f1, iv v_f2, iv v_c, iv v_fc, rv b1, rv b2, iv (xf + (1 : Int32)), iv (xf + (2 : Int32)), rv vq212, rv vq218, rv r1q212, rv r2q212, rv r1q218, rv r2q218] [(.int v_b1)] _
        refine XS.iload X238.here hx rfl (hb hby at_339) rfl ?_
        show own_At p e below T238 m 341 #[iv xf, iv xg, .val (.long xt), .second, .val (.long xq), .second, .val (.long xc), .second, iv bg, iv od, iv v_x, iv v_y, iv v_b1, iv v_b2, iv v_f1, iv v_f2, iv v_c, iv v_fc, rv b1, rv b2, iv (xf + (1 : Int32)), iv (xf + (2 : Int32)), rv vq212, rv vq218, rv r1q212, rv r2q212, rv r1q218, rv r2q218] [(.int v_b1), (.int v_b1)] _
        refine XS.icmpNo X238.here hx rfl (hb hby at_341) rfl (teq hc259).2 ?_
        show own_At p e below T238 m 344 #[iv xf, iv xg, .val (.long xt), .second, .val (.long xq), .second, .val (.long xc), .second, iv bg, iv od, iv v_x, iv v_y, iv v_b1, iv v_b2, iv v_f1, iv v_f2, iv v_c, iv v_fc, rv b1, rv b2, iv (xf + (1 : Int32)), iv (xf + (2 : Int32)), rv vq212, rv vq218, rv r1q212, rv r2q212, rv r1q218, rv r2q218] [] _
        refine XS.aload X238.here hx rfl (hb hby at_344) rfl rfl ?_
        show own_At p e below T238 m 346 #[iv xf, iv xg, .val (.long xt), .second, .val (.long xq), .second, .val (.long xc), .second, iv bg, iv od, iv v_x, iv v_y, iv v_b1, iv v_b2, iv v_f1, iv v_f2, iv v_c, iv v_fc, rv b1, rv b2, iv (xf + (1 : Int32)), iv (xf + (2 : Int32)), rv vq212, rv vq218, rv r1q212, rv r2q212, rv r1q218, rv r2q218] [(.ref r1q212)] _
        refine XS.iconst X238.here hx rfl (hb hby at_346) ?_
        show own_At p e below T238 m 347 #[iv xf, iv xg, .val (.long xt), .second, .val (.long xq), .second, .val (.long xc), .second, iv bg, iv od, iv v_x, iv v_y, iv v_b1, iv v_b2, iv v_f1, iv v_f2, iv v_c, iv v_fc, rv b1, rv b2, iv (xf + (1 : Int32)), iv (xf + (2 : Int32)), rv vq212, rv vq218, rv r1q212, rv r2q212, rv r1q218, rv r2q218] [(.int (1 : Int32)), (.ref r1q212)] _
        exact kt)
      have ls261 := own_iaload X238 hx hZ eq238 f222 (j := (1 : Int32)) (i := 1) (by decide) (by decide) (by decide) (v := (.int v_b2)) (rfl) (g := (mkF m 347 #[iv xf, iv xg, .val (.long xt), .second, .val (.long xq), .second, .val (.long xc), .second, iv bg, iv od, iv v_x, iv v_y, iv v_b1, iv v_b2, iv v_f1, iv v_f2, iv v_c, iv v_fc, rv b1, rv b2, iv (xf + (1 : Int32)), iv (xf + (2 : Int32)), rv vq212, rv vq218, rv r1q212, rv r2q212, rv r1q218, rv r2q218] [(.int (1 : Int32)), (.ref r1q212)])) rfl rfl (hb hby at_347)
      have st262 : own_Go p e below (T238.setTop (mkF m 348 #[iv xf, iv xg, .val (.long xt), .second, .val (.long xq), .second, .val (.long xc), .second, iv bg, iv od, iv v_x, iv v_y, iv v_b1, iv v_b2, iv v_f1, iv v_f2, iv v_c, iv v_fc, rv b1, rv b2, iv (xf + (1 : Int32)), iv (xf + (2 : Int32)), rv vq212, rv vq218, rv r1q212, rv r2q212, rv r1q218, rv r2q218] [(.int v_b2)])) B0 := fun t kt => st260 t (ls261 t kt)
      have hc263 : v_b2 = v_b2 := rfl
      have st264 : own_Go p e below (T238.setTop (mkF m 356 #[iv xf, iv xg, .val (.long xt), .second, .val (.long xq), .second, .val (.long xc), .second, iv bg, iv od, iv v_x, iv v_y, iv v_b1, iv v_b2, iv v_f1, iv v_f2, iv v_c, iv v_fc, rv b1, rv b2, iv (xf + (1 : Int32)), iv (xf + (2 : Int32)), rv vq212, rv vq218, rv r1q212, rv r2q212, rv r1q218, rv r2q218] [(.int (0 : Int32)), (.ref r2q212)])) B0 := fun t kt => st262 t (by
        show own_At p e below T238 m 348 #[iv xf, iv xg, .val (.long xt), .second, .val (.long xq), .second, .val (.long xc), .second, iv bg, iv od, iv v_x, iv v_y, iv v_b1, iv v_b2, iv v_f1, iv v_f2, iv v_c, iv v_fc, rv b1, rv b2, iv (xf + (1 : Int32)), iv (xf + (2 : Int32)), rv vq212, rv vq218, rv r1q212, rv r2q212, rv r1q218, rv r2q218] [(.int v_b2)] _
        refine XS.iload X238.here hx rfl (hb hby at_348) rfl ?_
        show own_At p e below T238 m 350 #[iv xf, iv xg, .val (.long xt), .second, .val (.long xq), .second, .val (.long xc), .second, iv bg, iv od, iv v_x, iv v_y, iv v_b1, iv v_b2, iv v_f1, iv v_f2, iv v_c, iv v_fc, rv b1, rv b2, iv (xf + (1 : Int32)), iv (xf + (2 : Int32)), rv vq212, rv vq218, rv r1q212, rv r2q212, rv r1q218, rv r2q218] [(.int v_b2), (.int v_b2)] _
        refine XS.icmpNo X238.here hx rfl (hb hby at_350) rfl (teq hc263).2 ?_
        show own_At p e below T238 m 353 #[iv xf, iv xg, .val (.long xt), .second, .val (.long xq), .second, .val (.long xc), .second, iv bg, iv od, iv v_x, iv v_y, iv v_b1, iv v_b2, iv v_f1, iv v_f2, iv v_c, iv v_fc, rv b1, rv b2, iv (xf + (1 : Int32)), iv (xf + (2 : Int32)), rv vq212, rv vq218, rv r1q212, rv r2q212, rv r1q218, rv r2q218] [] _
        refine XS.aload X238.here hx rfl (hb hby at_353) rfl rfl ?_
        show own_At p e below T238 m 355 #[iv xf, iv xg, .val (.long xt), .second, .val (.long xq), .second, .val (.long xc), .second, iv bg, iv od, iv v_x, iv v_y, iv v_b1, iv v_b2, iv v_f1, iv v_f2, iv v_c, iv v_fc, rv b1, rv b2, iv (xf + (1 : Int32)), iv (xf + (2 : Int32)), rv vq212, rv vq218, rv r1q212, rv r2q212, rv r1q218, rv r2q218] [(.ref r2q212)] _
        refine XS.iconst X238.here hx rfl (hb hby at_355) ?_
        show own_At p e below T238 m 356 #[iv xf, iv xg, .val (.long xt), .second, .val (.long xq), .second, .val (.long xc), .second, iv bg, iv od, iv v_x, iv v_y, iv v_b1, iv v_b2, iv v_f1, iv v_f2, iv v_c, iv v_fc, rv b1, rv b2, iv (xf + (1 : Int32)), iv (xf + (2 : Int32)), rv vq212, rv vq218, rv r1q212, rv r2q212, rv r1q218, rv r2q218] [(.int (0 : Int32)), (.ref r2q212)] _
        exact kt)
      have ls265 := own_iaload X238 hx hZ eq238 f224 (j := (0 : Int32)) (i := 0) (by decide) (by decide) (by decide) (v := (.int v_f1)) (rfl) (g := (mkF m 356 #[iv xf, iv xg, .val (.long xt), .second, .val (.long xq), .second, .val (.long xc), .second, iv bg, iv od, iv v_x, iv v_y, iv v_b1, iv v_b2, iv v_f1, iv v_f2, iv v_c, iv v_fc, rv b1, rv b2, iv (xf + (1 : Int32)), iv (xf + (2 : Int32)), rv vq212, rv vq218, rv r1q212, rv r2q212, rv r1q218, rv r2q218] [(.int (0 : Int32)), (.ref r2q212)])) rfl rfl (hb hby at_356)
      have st266 : own_Go p e below (T238.setTop (mkF m 357 #[iv xf, iv xg, .val (.long xt), .second, .val (.long xq), .second, .val (.long xc), .second, iv bg, iv od, iv v_x, iv v_y, iv v_b1, iv v_b2, iv v_f1, iv v_f2, iv v_c, iv v_fc, rv b1, rv b2, iv (xf + (1 : Int32)), iv (xf + (2 : Int32)), rv vq212, rv vq218, rv r1q212, rv r2q212, rv r1q218, rv r2q218] [(.int v_f1)])) B0 := fun t kt => st264 t (ls265 t kt)
      have hc267 : v_f1 = v_f1 := rfl
      have st268 : own_Go p e below (T238.setTop (mkF m 365 #[iv xf, iv xg, .val (.long xt), .second, .val (.long xq), .second, .val (.long xc), .second, iv bg, iv od, iv v_x, iv v_y, iv v_b1, iv v_b2, iv v_f1, iv v_f2, iv v_c, iv v_fc, rv b1, rv b2, iv (xf + (1 : Int32)), iv (xf + (2 : Int32)), rv vq212, rv vq218, rv r1q212, rv r2q212, rv r1q218, rv r2q218] [(.int (1 : Int32)), (.ref r2q212)])) B0 := fun t kt => st266 t (by
        show own_At p e below T238 m 357 #[iv xf, iv xg, .val (.long xt), .second, .val (.long xq), .second, .val (.long xc), .second, iv bg, iv od, iv v_x, iv v_y, iv v_b1, iv v_b2, iv v_f1, iv v_f2, iv v_c, iv v_fc, rv b1, rv b2, iv (xf + (1 : Int32)), iv (xf + (2 : Int32)), rv vq212, rv vq218, rv r1q212, rv r2q212, rv r1q218, rv r2q218] [(.int v_f1)] _
        refine XS.iload X238.here hx rfl (hb hby at_357) rfl ?_
        show own_At p e below T238 m 359 #[iv xf, iv xg, .val (.long xt), .second, .val (.long xq), .second, .val (.long xc), .second, iv bg, iv od, iv v_x, iv v_y, iv v_b1, iv v_b2, iv v_f1, iv v_f2, iv v_c, iv v_fc, rv b1, rv b2, iv (xf + (1 : Int32)), iv (xf + (2 : Int32)), rv vq212, rv vq218, rv r1q212, rv r2q212, rv r1q218, rv r2q218] [(.int v_f1), (.int v_f1)] _
        refine XS.icmpNo X238.here hx rfl (hb hby at_359) rfl (teq hc267).2 ?_
        show own_At p e below T238 m 362 #[iv xf, iv xg, .val (.long xt), .second, .val (.long xq), .second, .val (.long xc), .second, iv bg, iv od, iv v_x, iv v_y, iv v_b1, iv v_b2, iv v_f1, iv v_f2, iv v_c, iv v_fc, rv b1, rv b2, iv (xf + (1 : Int32)), iv (xf + (2 : Int32)), rv vq212, rv vq218, rv r1q212, rv r2q212, rv r1q218, rv r2q218] [] _
        refine XS.aload X238.here hx rfl (hb hby at_362) rfl rfl ?_
        show own_At p e below T238 m 364 #[iv xf, iv xg, .val (.long xt), .second, .val (.long xq), .second, .val (.long xc), .second, iv bg, iv od, iv v_x, iv v_y, iv v_b1, iv v_b2, iv v_f1, iv v_f2, iv v_c, iv v_fc, rv b1, rv b2, iv (xf + (1 : Int32)), iv (xf + (2 : Int32)), rv vq212, rv vq218, rv r1q212, rv r2q212, rv r1q218, rv r2q218] [(.ref r2q212)] _
        refine XS.iconst X238.here hx rfl (hb hby at_364) ?_
        show own_At p e below T238 m 365 #[iv xf, iv xg, .val (.long xt), .second, .val (.long xq), .second, .val (.long xc), .second, iv bg, iv od, iv v_x, iv v_y, iv v_b1, iv v_b2, iv v_f1, iv v_f2, iv v_c, iv v_fc, rv b1, rv b2, iv (xf + (1 : Int32)), iv (xf + (2 : Int32)), rv vq212, rv vq218, rv r1q212, rv r2q212, rv r1q218, rv r2q218] [(.int (1 : Int32)), (.ref r2q212)] _
        exact kt)
      have ls269 := own_iaload X238 hx hZ eq238 f224 (j := (1 : Int32)) (i := 1) (by decide) (by decide) (by decide) (v := (.int v_f2)) (rfl) (g := (mkF m 365 #[iv xf, iv xg, .val (.long xt), .second, .val (.long xq), .second, .val (.long xc), .second, iv bg, iv od, iv v_x, iv v_y, iv v_b1, iv v_b2, iv v_f1, iv v_f2, iv v_c, iv v_fc, rv b1, rv b2, iv (xf + (1 : Int32)), iv (xf + (2 : Int32)), rv vq212, rv vq218, rv r1q212, rv r2q212, rv r1q218, rv r2q218] [(.int (1 : Int32)), (.ref r2q212)])) rfl rfl (hb hby at_365)
      have st270 : own_Go p e below (T238.setTop (mkF m 366 #[iv xf, iv xg, .val (.long xt), .second, .val (.long xq), .second, .val (.long xc), .second, iv bg, iv od, iv v_x, iv v_y, iv v_b1, iv v_b2, iv v_f1, iv v_f2, iv v_c, iv v_fc, rv b1, rv b2, iv (xf + (1 : Int32)), iv (xf + (2 : Int32)), rv vq212, rv vq218, rv r1q212, rv r2q212, rv r1q218, rv r2q218] [(.int v_f2)])) B0 := fun t kt => st268 t (ls269 t kt)
      have hc271 : v_f2 = v_f2 := rfl
      have st272 : own_Go p e below (T238.setTop (mkF m 374 #[iv xf, iv xg, .val (.long xt), .second, .val (.long xq), .second, .val (.long xc), .second, iv bg, iv od, iv v_x, iv v_y, iv v_b1, iv v_b2, iv v_f1, iv v_f2, iv v_c, iv v_fc, rv b1, rv b2, iv (xf + (1 : Int32)), iv (xf + (2 : Int32)), rv vq212, rv vq218, rv r1q212, rv r2q212, rv r1q218, rv r2q218] [(.int (0 : Int32)), (.ref r1q218)])) B0 := fun t kt => st270 t (by
        show own_At p e below T238 m 366 #[iv xf, iv xg, .val (.long xt), .second, .val (.long xq), .second, .val (.long xc), .second, iv bg, iv od, iv v_x, iv v_y, iv v_b1, iv v_b2, iv v_f1, iv v_f2, iv v_c, iv v_fc, rv b1, rv b2, iv (xf + (1 : Int32)), iv (xf + (2 : Int32)), rv vq212, rv vq218, rv r1q212, rv r2q212, rv r1q218, rv r2q218] [(.int v_f2)] _
        refine XS.iload X238.here hx rfl (hb hby at_366) rfl ?_
        show own_At p e below T238 m 368 #[iv xf, iv xg, .val (.long xt), .second, .val (.long xq), .second, .val (.long xc), .second, iv bg, iv od, iv v_x, iv v_y, iv v_b1, iv v_b2, iv v_f1, iv v_f2, iv v_c, iv v_fc, rv b1, rv b2, iv (xf + (1 : Int32)), iv (xf + (2 : Int32)), rv vq212, rv vq218, rv r1q212, rv r2q212, rv r1q218, rv r2q218] [(.int v_f2), (.int v_f2)] _
        refine XS.icmpNo X238.here hx rfl (hb hby at_368) rfl (teq hc271).2 ?_
        show own_At p e below T238 m 371 #[iv xf, iv xg, .val (.long xt), .second, .val (.long xq), .second, .val (.long xc), .second, iv bg, iv od, iv v_x, iv v_y, iv v_b1, iv v_b2, iv v_f1, iv v_f2, iv v_c, iv v_fc, rv b1, rv b2, iv (xf + (1 : Int32)), iv (xf + (2 : Int32)), rv vq212, rv vq218, rv r1q212, rv r2q212, rv r1q218, rv r2q218] [] _
        refine XS.aload X238.here hx rfl (hb hby at_371) rfl rfl ?_
        show own_At p e below T238 m 373 #[iv xf, iv xg, .val (.long xt), .second, .val (.long xq), .second, .val (.long xc), .second, iv bg, iv od, iv v_x, iv v_y, iv v_b1, iv v_b2, iv v_f1, iv v_f2, iv v_c, iv v_fc, rv b1, rv b2, iv (xf + (1 : Int32)), iv (xf + (2 : Int32)), rv vq212, rv vq218, rv r1q212, rv r2q212, rv r1q218, rv r2q218] [(.ref r1q218)] _
        refine XS.iconst X238.here hx rfl (hb hby at_373) ?_
        show own_At p e below T238 m 374 #[iv xf, iv xg, .val (.long xt), .second, .val (.long xq), .second, .val (.long xc), .second, iv bg, iv od, iv v_x, iv v_y, iv v_b1, iv v_b2, iv v_f1, iv v_f2, iv v_c, iv v_fc, rv b1, rv b2, iv (xf + (1 : Int32)), iv (xf + (2 : Int32)), rv vq212, rv vq218, rv r1q212, rv r2q212, rv r1q218, rv r2q218] [(.int (0 : Int32)), (.ref r1q218)] _
        exact kt)
      have ls273 := own_iaload X238 hx hZ eq238 Ar1q218 (j := (0 : Int32)) (i := 0) (by decide) (by decide) (by decide) (v := (.int v_c)) (rfl) (g := (mkF m 374 #[iv xf, iv xg, .val (.long xt), .second, .val (.long xq), .second, .val (.long xc), .second, iv bg, iv od, iv v_x, iv v_y, iv v_b1, iv v_b2, iv v_f1, iv v_f2, iv v_c, iv v_fc, rv b1, rv b2, iv (xf + (1 : Int32)), iv (xf + (2 : Int32)), rv vq212, rv vq218, rv r1q212, rv r2q212, rv r1q218, rv r2q218] [(.int (0 : Int32)), (.ref r1q218)])) rfl rfl (hb hby at_374)
      have st274 : own_Go p e below (T238.setTop (mkF m 375 #[iv xf, iv xg, .val (.long xt), .second, .val (.long xq), .second, .val (.long xc), .second, iv bg, iv od, iv v_x, iv v_y, iv v_b1, iv v_b2, iv v_f1, iv v_f2, iv v_c, iv v_fc, rv b1, rv b2, iv (xf + (1 : Int32)), iv (xf + (2 : Int32)), rv vq212, rv vq218, rv r1q212, rv r2q212, rv r1q218, rv r2q218] [(.int v_c)])) B0 := fun t kt => st272 t (ls273 t kt)
      have hc275 : v_c = v_c := rfl
      have st276 : own_Go p e below (T238.setTop (mkF m 383 #[iv xf, iv xg, .val (.long xt), .second, .val (.long xq), .second, .val (.long xc), .second, iv bg, iv od, iv v_x, iv v_y, iv v_b1, iv v_b2, iv v_f1, iv v_f2, iv v_c, iv v_fc, rv b1, rv b2, iv (xf + (1 : Int32)), iv (xf + (2 : Int32)), rv vq212, rv vq218, rv r1q212, rv r2q212, rv r1q218, rv r2q218] [(.int (0 : Int32)), (.ref r2q218)])) B0 := fun t kt => st274 t (by
        show own_At p e below T238 m 375 #[iv xf, iv xg, .val (.long xt), .second, .val (.long xq), .second, .val (.long xc), .second, iv bg, iv od, iv v_x, iv v_y, iv v_b1, iv v_b2, iv v_f1, iv v_f2, iv v_c, iv v_fc, rv b1, rv b2, iv (xf + (1 : Int32)), iv (xf + (2 : Int32)), rv vq212, rv vq218, rv r1q212, rv r2q212, rv r1q218, rv r2q218] [(.int v_c)] _
        refine XS.iload X238.here hx rfl (hb hby at_375) rfl ?_
        show own_At p e below T238 m 377 #[iv xf, iv xg, .val (.long xt), .second, .val (.long xq), .second, .val (.long xc), .second, iv bg, iv od, iv v_x, iv v_y, iv v_b1, iv v_b2, iv v_f1, iv v_f2, iv v_c, iv v_fc, rv b1, rv b2, iv (xf + (1 : Int32)), iv (xf + (2 : Int32)), rv vq212, rv vq218, rv r1q212, rv r2q212, rv r1q218, rv r2q218] [(.int v_c), (.int v_c)] _
        refine XS.icmpNo X238.here hx rfl (hb hby at_377) rfl (teq hc275).2 ?_
        show own_At p e below T238 m 380 #[iv xf, iv xg, .val (.long xt), .second, .val (.long xq), .second, .val (.long xc), .second, iv bg, iv od, iv v_x, iv v_y, iv v_b1, iv v_b2, iv v_f1, iv v_f2, iv v_c, iv v_fc, rv b1, rv b2, iv (xf + (1 : Int32)), iv (xf + (2 : Int32)), rv vq212, rv vq218, rv r1q212, rv r2q212, rv r1q218, rv r2q218] [] _
        refine XS.aload X238.here hx rfl (hb hby at_380) rfl rfl ?_
        show own_At p e below T238 m 382 #[iv xf, iv xg, .val (.long xt), .second, .val (.long xq), .second, .val (.long xc), .second, iv bg, iv od, iv v_x, iv v_y, iv v_b1, iv v_b2, iv v_f1, iv v_f2, iv v_c, iv v_fc, rv b1, rv b2, iv (xf + (1 : Int32)), iv (xf + (2 : Int32)), rv vq212, rv vq218, rv r1q212, rv r2q212, rv r1q218, rv r2q218] [(.ref r2q218)] _
        refine XS.iconst X238.here hx rfl (hb hby at_382) ?_
        show own_At p e below T238 m 383 #[iv xf, iv xg, .val (.long xt), .second, .val (.long xq), .second, .val (.long xc), .second, iv bg, iv od, iv v_x, iv v_y, iv v_b1, iv v_b2, iv v_f1, iv v_f2, iv v_c, iv v_fc, rv b1, rv b2, iv (xf + (1 : Int32)), iv (xf + (2 : Int32)), rv vq212, rv vq218, rv r1q212, rv r2q212, rv r1q218, rv r2q218] [(.int (0 : Int32)), (.ref r2q218)] _
        exact kt)
      have ls277 := own_iaload X238 hx hZ eq238 Ar2q218 (j := (0 : Int32)) (i := 0) (by decide) (by decide) (by decide) (v := (.int v_fc)) (rfl) (g := (mkF m 383 #[iv xf, iv xg, .val (.long xt), .second, .val (.long xq), .second, .val (.long xc), .second, iv bg, iv od, iv v_x, iv v_y, iv v_b1, iv v_b2, iv v_f1, iv v_f2, iv v_c, iv v_fc, rv b1, rv b2, iv (xf + (1 : Int32)), iv (xf + (2 : Int32)), rv vq212, rv vq218, rv r1q212, rv r2q212, rv r1q218, rv r2q218] [(.int (0 : Int32)), (.ref r2q218)])) rfl rfl (hb hby at_383)
      have st278 : own_Go p e below (T238.setTop (mkF m 384 #[iv xf, iv xg, .val (.long xt), .second, .val (.long xq), .second, .val (.long xc), .second, iv bg, iv od, iv v_x, iv v_y, iv v_b1, iv v_b2, iv v_f1, iv v_f2, iv v_c, iv v_fc, rv b1, rv b2, iv (xf + (1 : Int32)), iv (xf + (2 : Int32)), rv vq212, rv vq218, rv r1q212, rv r2q212, rv r1q218, rv r2q218] [(.int v_fc)])) B0 := fun t kt => st276 t (ls277 t kt)
      have hc279 : v_fc = v_fc := rfl
      have st280 : own_Go p e below (T238.setTop (mkF m 394 #[iv xf, iv xg, .val (.long xt), .second, .val (.long xq), .second, .val (.long xc), .second, iv bg, iv od, iv v_x, iv v_y, iv v_b1, iv v_b2, iv v_f1, iv v_f2, iv v_c, iv v_fc, rv b1, rv b2, iv (xf + (1 : Int32)), iv (xf + (2 : Int32)), rv vq212, rv vq218, rv r1q212, rv r2q212, rv r1q218, rv r2q218] [(.int (1 : Int32))])) B0 := fun t kt => st278 t (by
        show own_At p e below T238 m 384 #[iv xf, iv xg, .val (.long xt), .second, .val (.long xq), .second, .val (.long xc), .second, iv bg, iv od, iv v_x, iv v_y, iv v_b1, iv v_b2, iv v_f1, iv v_f2, iv v_c, iv v_fc, rv b1, rv b2, iv (xf + (1 : Int32)), iv (xf + (2 : Int32)), rv vq212, rv vq218, rv r1q212, rv r2q212, rv r1q218, rv r2q218] [(.int v_fc)] _
        refine XS.iload X238.here hx rfl (hb hby at_384) rfl ?_
        show own_At p e below T238 m 386 #[iv xf, iv xg, .val (.long xt), .second, .val (.long xq), .second, .val (.long xc), .second, iv bg, iv od, iv v_x, iv v_y, iv v_b1, iv v_b2, iv v_f1, iv v_f2, iv v_c, iv v_fc, rv b1, rv b2, iv (xf + (1 : Int32)), iv (xf + (2 : Int32)), rv vq212, rv vq218, rv r1q212, rv r2q212, rv r1q218, rv r2q218] [(.int v_fc), (.int v_fc)] _
        refine XS.icmpNo X238.here hx rfl (hb hby at_386) rfl (teq hc279).2 ?_
        show own_At p e below T238 m 389 #[iv xf, iv xg, .val (.long xt), .second, .val (.long xq), .second, .val (.long xc), .second, iv bg, iv od, iv v_x, iv v_y, iv v_b1, iv v_b2, iv v_f1, iv v_f2, iv v_c, iv v_fc, rv b1, rv b2, iv (xf + (1 : Int32)), iv (xf + (2 : Int32)), rv vq212, rv vq218, rv r1q212, rv r2q212, rv r1q218, rv r2q218] [] _
        refine XS.iconst X238.here hx rfl (hb hby at_389) ?_
        show own_At p e below T238 m 390 #[iv xf, iv xg, .val (.long xt), .second, .val (.long xq), .second, .val (.long xc), .second, iv bg, iv od, iv v_x, iv v_y, iv v_b1, iv v_b2, iv v_f1, iv v_f2, iv v_c, iv v_fc, rv b1, rv b2, iv (xf + (1 : Int32)), iv (xf + (2 : Int32)), rv vq212, rv vq218, rv r1q212, rv r2q212, rv r1q218, rv r2q218] [(.int (1 : Int32))] _
        refine XS.goto X238.here hx rfl (pc0 := 390) (pc' := 394) rfl (hb hby at_390) (by decide) (by decide) ?_
        show own_At p e below T238 m 394 #[iv xf, iv xg, .val (.long xt), .second, .val (.long xq), .second, .val (.long xc), .second, iv bg, iv od, iv v_x, iv v_y, iv v_b1, iv v_b2, iv v_f1, iv v_f2, iv v_c, iv v_fc, rv b1, rv b2, iv (xf + (1 : Int32)), iv (xf + (2 : Int32)), rv vq212, rv vq218, rv r1q212, rv r2q212, rv r1q218, rv r2q218] [(.int (1 : Int32))] _
        exact kt)
      obtain ⟨fs, hr, hrun, hended, hW, hsame⟩ := X238.leave (v := (some (.int (1 : Int32)))) (fun h => by rw [Bd.returns] at h; cases h)
      subst hB0
      refine ⟨_, _, st280 _ ?_, hrun, hended, _, _, rfl, ?_, ⟨_, rfl⟩, hW, hsame.mono (by decide) (by decide)⟩
      · exact retN X238 hx (t := .boolean) Bd.returns (by simp) (hb hby at_394) hr
      · show Q_rm_law Z xf xg xt xq xc h0 n0 _ T238.heap _
        rw [eq238]
        exact ⟨rfl, N238⟩
set_option maxRecDepth 65536 in
set_option maxHeartbeats 40000000 in
theorem comes_1 {Post : Tables → Env → Array Value → State → Outcome → State → Prop} (hpost : ∀ tb e args s v u, (limb_1_1.after args s (.returned v) u = true ∧ limb_1_2.after args s (.returned v) u = true ∧ True) → FrameEnd s (.returned v) u (Jvm.fieldLocs frame_1_writes args s ++ Jvm.arrayLocs frame_1_arrays args s ++ Jvm.staticLocs frame_1_statics s) 40 65728 → Post tb e args s (.returned v) u) :
    ArmFor flags0 classFile x code maxLocals ret World_1 tables_1 room_1 Calls_1 rest_1 Pre_1 Post := by
  intro l hfl _ _ p e ha hc hk s m args below hf hA hF happ hP
  obtain ⟨hcalls, hrest, hpre⟩ := hP
  obtain ⟨-, -, -, hnamed, -, -, -, hat⟩ := (Spec.applies_iff hf).mp happ
  obtain ⟨hg, hn⟩ := and_e (Cond.before_iff.mp (show (Jvm.Cond.and given_1 narrow_1).before args s = true from hpre))
  obtain ⟨gg1, gg2⟩ := and_e hg
  obtain ⟨gg3, gg4⟩ := and_e gg2
  obtain ⟨gg5, gg6⟩ := and_e gg4
  obtain ⟨gg7, gg8⟩ := and_e gg6
  obtain ⟨gg9, gg10⟩ := and_e gg8
  obtain ⟨w0, w1, w2, w3, w4, rfl⟩ : ∃ w0 w1 w2 w3 w4 : Value, args = #[w0, w1, w2, w3, w4] := by
    have hs : args.size = 5 := by simpa [Cond.value, given_1] using gg1
    obtain ⟨L⟩ := args
    match L, hs with
    | [w0, w1, w2, w3, w4], _ => exact ⟨w0, w1, w2, w3, w4, rfl⟩
  have hw := fun d (hd : d ∈ tables_1) => atoms_spec (ws := Jvm.Cond.code x code maxLocals ret :: tables_1) hat d (List.mem_cons_of_mem _ hd)
  have hfit : Fit s := fun {y c} hc i hi => by
    obtain ⟨ha, rfl⟩ := Array.getElem?_eq_some_iff.mp hc
    have q := List.all_eq_true.mp ((Array.all_eq_true_iff_forall_mem.mp hF) _ (Array.getElem_mem ha)) i (List.mem_range.mpr hi)
    simpa [Array.getElem?_eq_getElem hi] using q
  obtain ⟨i0, ei0⟩ := is_v gg3
  obtain rfl : w0 = (.int i0) := Option.some.inj ei0
  obtain ⟨i1, ei1⟩ := is_v gg5
  obtain rfl : w1 = (.int i1) := Option.some.inj ei1
  obtain ⟨i2, ei2⟩ := isL_v gg7
  obtain rfl : w2 = (.long i2) := Option.some.inj ei2
  obtain ⟨i3, ei3⟩ := isL_v gg9
  obtain rfl : w3 = (.long i3) := Option.some.inj ei3
  obtain ⟨i4, ei4⟩ := isL_v gg10
  obtain rfl : w4 = (.long i4) := Option.some.inj ei4
  obtain ⟨n, o, h1, h2, h3, _, L, rfl, ⟨rfl, N⟩, hq⟩ := rm_law l s _ hw tables_1 i0 i1 i2 i3 i4  s.heap s.heap.size (Nat.le_refl _)  p e ha hc hk s m _ below hf ((Spec.applies_iff_loose hf).mp happ).1 ⟨rfl, State.Warmed39.refl s, rfl⟩ trivial
  refine ⟨n, _, h1, h2, h3, hpost _ _ _ _ _ _ ⟨Cond.after_iff.mpr rfl, Cond.after_iff.mpr (eq_i res_at (Term.int_eval (1)) rfl), trivial⟩ ⟨hq.1, hq.2.1, (hq.2.2.sift fun y hy => Or.inr (N y hy)).mono (by decide) (by decide)⟩⟩
theorem main_1_1 : Claimed_1_1 := comes_1 fun _ _ _ _ _ _ h hF => ⟨h.1, hF⟩
theorem main_1_2 : Claimed_1_2 := comes_1 fun _ _ _ _ _ _ h hF => ⟨h.2.1, hF⟩
end Jvm.Pilot.@@N@@
namespace Jvm.Pilot.@@N@@
open Jvm Jvm.ClassFile Sem Op Lib Jvm.Free Jvm.Stand Jvm.Pilot.@@N@@.Jvm.D
/-! MADE BY PROGRAM (witnessworld.py) out of the Statement's table words and the real class files: 15 classes; the members and pool entries that the words name. The judged class is class 1, her method 1. -/
namespace start1
open Jvm.ClassFile
def u (s : String) : CpInfo := .utf8 (stringToUtf16 s)
/-- a pool by its gaps: so many unusable entries, then the entry; so many at the end -/
def gap : Nat → List CpInfo → List CpInfo
  | 0, r => r
  | n + 1, r => .unusable :: gap n r
def poolList (es : List (Nat × CpInfo)) (last : Nat) : List CpInfo := es.foldr (fun e r => gap e.1 (e.2 :: r)) (gap last [])
def pool (es : List (Nat × CpInfo)) (last : Nat) : Array CpInfo := ⟨poolList es last⟩
def fileOf (pool : Array CpInfo) (this : Nat) (attrs : Array Attribute := #[]) (ms : Array MethodInfo := #[]) (fl : Nat := 33) (sup : Nat := 0) (ifs : Array Nat := #[]) (fds : Array FieldInfo := #[]) : ClassFile where
  minorVersion := 0
  majorVersion := 65
  constantPool := pool
  accessFlags := fl
  thisClass := this
  superClass := sup
  interfaces := ifs
  fields := fds
  methods := ms
  attributes := attrs
def plain (name : String) (sup : Option ClassId) : Class where
  name := name
  kind := .ordinary
  loader := none
  accessFlags := 33
  super := sup
  interfaces := #[]
  cf := none
  fields := #[]
  methods := #[]
  instanceTypes := #[]
  staticTypes := #[]
  resolved := #[]
  callSites := []
  init := .initialized
  statics := none
  mirror := none

def pool0 : Array CpInfo := pool [(5, u "<init>"), (0, u "()V"), (1, .class_ 10), (1, u "java/lang/Object")] 113

def k0c0 : Code := { maxStack := 0, maxLocals := 1, code := object_method_1_code, exceptionTable := #[], attributes := #[] }
def k0m0 : Method := { name := "<init>", desc := "()V", sig := { parameters := [], returnType := none }, accessFlags := 1, code := some k0c0 }
/-- java/lang/Object -/
def k0 : Class := { plain "java/lang/Object" none with
  accessFlags := 33
  interfaces := #[]
  cf := some (fileOf pool0 8 #[] #[{ accessFlags := 1, nameIndex := 5, descriptorIndex := 6, attributes := #[] }] 33 0 #[] #[])
  fields := #[]
  methods := #[k0m0]
  instanceTypes := #[]
  staticTypes := #[]
  resolved := Array.replicate 124 none
  statics := none }

def pool1 : Array CpInfo := pool [(2, .class_ 4), (1, u "java/lang/Object"), (0, u "<init>"), (0, u "()V"), (0, .methodref 8 9), (0, .class_ 10), (0, .nameAndType 11 12), (0, u "java/lang/Math"), (0, u "min"), (0, u "(II)I"), (0, .methodref 8 14), (0, .nameAndType 15 12), (0, u "max"), (0, .class_ 17), (0, u "com/example/ranked_text_search/rankedtextsearch/MemoryTermVectors"), (2, .methodref 16 21), (0, .nameAndType 5 22), (0, u "([Ljava/lang/String;I[II)V"), (0, .methodref 16 24), (0, .nameAndType 25 26), (0, u "add"), (0, u "(III)V"), (0, .methodref 16 28), (0, .nameAndType 29 30), (0, u "vector"), (0, u "(I)Lcom/example/ranked_text_search/rankedtextsearch/TermVectors$Vector;"), (0, .methodref 32 33), (0, .class_ 34), (0, .nameAndType 35 36), (0, u "com/example/ranked_text_search/rankedtextsearch/TermVectors$Vector"), (0, u "termNumbers"), (0, u "()[I"), (0, .methodref 32 38), (0, .nameAndType 39 36), (0, u "frequencies"), (0, .class_ 41), (0, u "com/example/ranked_text_search/rankedtextsearch/MemoryTermVectorsAddPinLaw"), (2, u "law"), (0, u "(IIJJJ)Z")] 9

def k1m0 : Method := { name := "<init>", desc := "()V", sig := { parameters := [], returnType := none }, accessFlags := 2, code := none }
def k1c1 : Code := { maxStack := 7, maxLocals := 28, code := code, exceptionTable := #[], attributes := #[] }
def k1m1 : Method := { name := "law", desc := "(IIJJJ)Z", sig := { parameters := [.int, .int, .long, .long, .long], returnType := some .boolean }, accessFlags := 9, code := some k1c1 }
/-- com/example/ranked_text_search/rankedtextsearch/MemoryTermVectorsAddPinLaw -/
def k1 : Class := { plain "com/example/ranked_text_search/rankedtextsearch/MemoryTermVectorsAddPinLaw" (some 0) with
  accessFlags := 49
  interfaces := #[]
  cf := some (fileOf pool1 40 #[] #[{ accessFlags := 2, nameIndex := 5, descriptorIndex := 6, attributes := #[] }, { accessFlags := 9, nameIndex := 44, descriptorIndex := 45, attributes := #[] }] 49 2 #[] #[])
  fields := #[]
  methods := #[k1m0, k1m1]
  instanceTypes := #[]
  staticTypes := #[]
  resolved := Array.replicate 55 none
  statics := none }

def pool2 : Array CpInfo := pool [(1, .class_ 2), (0, u "java/lang/Math"), (1, .class_ 6), (1, u "java/lang/Object"), (0, u "<init>"), (0, u "()V"), (89, .class_ 100), (1, u "java/lang/Math$RandomNumberGeneratorHolder"), (71, u "negativeZeroFloatBits"), (0, u "J"), (2, u "negativeZeroDoubleBits"), (21, u "max"), (2, u "min"), (43, u "$assertionsDisabled"), (0, u "Z"), (88, u "(II)I"), (2, u "twoToTheDoubleScaleDown"), (0, u "D"), (4, u "twoToTheDoubleScaleUp"), (9, u "E"), (3, u "PI"), (2, u "TAU"), (2, u "DEGREES_TO_RADIANS"), (0, u "RADIANS_TO_DEGREES")] 94

def k2m0 : Method := { name := "<init>", desc := "()V", sig := { parameters := [], returnType := none }, accessFlags := 2, code := none }
def k2c1 : Code := { maxStack := 2, maxLocals := 2, code := jdk_29_method_65_code, exceptionTable := #[], attributes := #[] }
def k2m1 : Method := { name := "max", desc := "(II)I", sig := { parameters := [.int, .int], returnType := some .int }, accessFlags := 9, code := some k2c1 }
def k2c2 : Code := { maxStack := 2, maxLocals := 2, code := jdk_29_method_69_code, exceptionTable := #[], attributes := #[] }
def k2m2 : Method := { name := "min", desc := "(II)I", sig := { parameters := [.int, .int], returnType := some .int }, accessFlags := 9, code := some k2c2 }
/-- java/lang/Math -/
def k2 : Class := { plain "java/lang/Math" (some 0) with
  accessFlags := 49
  interfaces := #[]
  cf := some (fileOf pool2 1 #[.nestMembers #[98]] #[{ accessFlags := 2, nameIndex := 7, descriptorIndex := 8, attributes := #[] }, { accessFlags := 9, nameIndex := 198, descriptorIndex := 335, attributes := #[] }, { accessFlags := 9, nameIndex := 201, descriptorIndex := 335, attributes := #[] }] 49 4 #[] #[{ accessFlags := 25, nameIndex := 354, descriptorIndex := 339, attributes := #[] }, { accessFlags := 25, nameIndex := 358, descriptorIndex := 339, attributes := #[] }, { accessFlags := 25, nameIndex := 361, descriptorIndex := 339, attributes := #[] }, { accessFlags := 26, nameIndex := 364, descriptorIndex := 339, attributes := #[] }, { accessFlags := 26, nameIndex := 365, descriptorIndex := 339, attributes := #[] }, { accessFlags := 26, nameIndex := 172, descriptorIndex := 173, attributes := #[] }, { accessFlags := 26, nameIndex := 176, descriptorIndex := 173, attributes := #[] }, { accessFlags := 8, nameIndex := 344, descriptorIndex := 339, attributes := #[] }, { accessFlags := 8, nameIndex := 338, descriptorIndex := 339, attributes := #[] }, { accessFlags := 4120, nameIndex := 245, descriptorIndex := 246, attributes := #[] }])
  fields := #[{ name := "E", type := .double, accessFlags := 25, slot := 0, constantValue := 0 }, { name := "PI", type := .double, accessFlags := 25, slot := 1, constantValue := 0 }, { name := "TAU", type := .double, accessFlags := 25, slot := 2, constantValue := 0 }, { name := "DEGREES_TO_RADIANS", type := .double, accessFlags := 26, slot := 3, constantValue := 0 }, { name := "RADIANS_TO_DEGREES", type := .double, accessFlags := 26, slot := 4, constantValue := 0 }, { name := "negativeZeroFloatBits", type := .long, accessFlags := 26, slot := 5, constantValue := 0 }, { name := "negativeZeroDoubleBits", type := .long, accessFlags := 26, slot := 6, constantValue := 0 }, { name := "twoToTheDoubleScaleUp", type := .double, accessFlags := 8, slot := 7, constantValue := 0 }, { name := "twoToTheDoubleScaleDown", type := .double, accessFlags := 8, slot := 8, constantValue := 0 }, { name := "$assertionsDisabled", type := .boolean, accessFlags := 4120, slot := 9, constantValue := 0 }]
  methods := #[k2m0, k2m1, k2m2]
  instanceTypes := #[]
  staticTypes := #[.double, .double, .double, .double, .double, .long, .long, .double, .double, .boolean]
  resolved := Array.replicate 460 none
  statics := none }

def pool3 : Array CpInfo := pool [(1, .class_ 2), (0, u "com/example/ranked_text_search/rankedtextsearch/TermVectors"), (0, .class_ 4), (0, u "java/lang/Object"), (10, .class_ 16), (0, u "com/example/ranked_text_search/rankedtextsearch/TermVectors$Vector")] 2

/-- com/example/ranked_text_search/rankedtextsearch/TermVectors -/
def k3 : Class := { plain "com/example/ranked_text_search/rankedtextsearch/TermVectors" (some 0) with
  accessFlags := 1536
  interfaces := #[]
  cf := some (fileOf pool3 1 #[.nestMembers #[15]] #[] 1536 3 #[] #[])
  fields := #[]
  methods := #[]
  instanceTypes := #[]
  staticTypes := #[]
  resolved := Array.replicate 19 none
  statics := none }

def pool4 : Array CpInfo := pool [(1, .class_ 2), (0, u "com/example/ranked_text_search/rankedtextsearch/MemoryTermVectors"), (0, .methodref 4 5), (0, .class_ 6), (0, .nameAndType 7 8), (0, u "java/lang/Object"), (0, u "<init>"), (0, u "()V"), (0, .fieldref 1 10), (0, .nameAndType 11 12), (0, u "terms"), (0, u "[Ljava/lang/String;"), (0, .fieldref 1 14), (0, .nameAndType 15 16), (0, u "from"), (0, u "I"), (0, .fieldref 1 18), (0, .nameAndType 19 20), (0, u "starts"), (0, u "[I"), (0, .methodref 1 22), (0, .nameAndType 23 24), (0, u "pages"), (0, u "(I)[[I"), (0, .fieldref 1 26), (0, .nameAndType 27 28), (0, u "termNumbers"), (0, u "[[I"), (0, .fieldref 1 30), (0, .nameAndType 31 28), (0, u "frequencies"), (0, .methodref 33 34), (0, .class_ 35), (0, .nameAndType 36 37), (0, u "java/util/Arrays"), (0, u "copyOf"), (0, u "([II)[I"), (0, .fieldref 1 39), (0, .nameAndType 40 20), (0, u "next"), (0, .long 16384), (1, .class_ 20), (0, .methodref 45 46), (0, .class_ 47), (0, .nameAndType 48 49), (0, u "java/lang/Math"), (0, u "min"), (0, u "(II)I"), (18, u "([Ljava/lang/String;I[II)V"), (6, u "add"), (0, u "(III)V"), (0, .class_ 78), (0, u "com/example/ranked_text_search/rankedtextsearch/TermVectors$Vector"), (0, .methodref 1 80), (0, .nameAndType 81 82), (0, u "copy"), (0, u "([[III)[I"), (0, .methodref 77 84), (0, .nameAndType 7 85), (0, u "([I[I)V"), (0, .methodref 87 88), (0, .class_ 89), (0, .nameAndType 90 91), (0, u "java/lang/System"), (0, u "arraycopy"), (0, u "(Ljava/lang/Object;ILjava/lang/Object;II)V"), (0, .class_ 93), (0, u "com/example/ranked_text_search/rankedtextsearch/TermVectors"), (0, u "PAGE_BITS"), (2, u "PAGE_SIZE"), (10, u "vector"), (0, u "(I)Lcom/example/ranked_text_search/rankedtextsearch/TermVectors$Vector;")] 9

def k4c0 : Code := { maxStack := 5, maxLocals := 6, code := prog_50_method_1_code, exceptionTable := #[], attributes := #[] }
def k4m0 : Method := { name := "<init>", desc := "([Ljava/lang/String;I[II)V", sig := { parameters := [(.array (.object "java/lang/String")), .int, (.array .int), .int], returnType := none }, accessFlags := 0, code := some k4c0 }
def k4c1 : Code := { maxStack := 6, maxLocals := 3, code := prog_50_method_2_code, exceptionTable := #[], attributes := #[] }
def k4m1 : Method := { name := "pages", desc := "(I)[[I", sig := { parameters := [.int], returnType := some (.array (.array .int)) }, accessFlags := 10, code := some k4c1 }
def k4c2 : Code := { maxStack := 5, maxLocals := 5, code := prog_50_method_4_code, exceptionTable := #[], attributes := #[] }
def k4m2 : Method := { name := "add", desc := "(III)V", sig := { parameters := [.int, .int, .int], returnType := none }, accessFlags := 0, code := some k4c2 }
def k4c3 : Code := { maxStack := 6, maxLocals := 4, code := prog_50_method_5_code, exceptionTable := #[], attributes := #[] }
def k4m3 : Method := { name := "vector", desc := "(I)Lcom/example/ranked_text_search/rankedtextsearch/TermVectors$Vector;", sig := { parameters := [.int], returnType := some (.object "com/example/ranked_text_search/rankedtextsearch/TermVectors$Vector") }, accessFlags := 1, code := some k4c3 }
def k4c4 : Code := { maxStack := 5, maxLocals := 7, code := prog_50_method_6_code, exceptionTable := #[], attributes := #[] }
def k4m4 : Method := { name := "copy", desc := "([[III)[I", sig := { parameters := [(.array (.array .int)), .int, .int], returnType := some (.array .int) }, accessFlags := 10, code := some k4c4 }
/-- com/example/ranked_text_search/rankedtextsearch/MemoryTermVectors -/
def k4 : Class := { plain "com/example/ranked_text_search/rankedtextsearch/MemoryTermVectors" (some 0) with
  accessFlags := 32
  interfaces := #[3]
  cf := some (fileOf pool4 1 #[] #[{ accessFlags := 0, nameIndex := 7, descriptorIndex := 68, attributes := #[] }, { accessFlags := 10, nameIndex := 23, descriptorIndex := 24, attributes := #[] }, { accessFlags := 0, nameIndex := 75, descriptorIndex := 76, attributes := #[] }, { accessFlags := 1, nameIndex := 108, descriptorIndex := 109, attributes := #[] }, { accessFlags := 10, nameIndex := 81, descriptorIndex := 82, attributes := #[] }] 32 4 #[92] #[{ accessFlags := 26, nameIndex := 94, descriptorIndex := 16, attributes := #[] }, { accessFlags := 26, nameIndex := 97, descriptorIndex := 16, attributes := #[] }, { accessFlags := 18, nameIndex := 11, descriptorIndex := 12, attributes := #[] }, { accessFlags := 18, nameIndex := 15, descriptorIndex := 16, attributes := #[] }, { accessFlags := 18, nameIndex := 19, descriptorIndex := 20, attributes := #[] }, { accessFlags := 18, nameIndex := 27, descriptorIndex := 28, attributes := #[] }, { accessFlags := 18, nameIndex := 31, descriptorIndex := 28, attributes := #[] }, { accessFlags := 18, nameIndex := 40, descriptorIndex := 20, attributes := #[] }])
  fields := #[{ name := "PAGE_BITS", type := .int, accessFlags := 26, slot := 0, constantValue := 0 }, { name := "PAGE_SIZE", type := .int, accessFlags := 26, slot := 1, constantValue := 0 }, { name := "terms", type := (.array (.object "java/lang/String")), accessFlags := 18, slot := 0, constantValue := 0 }, { name := "from", type := .int, accessFlags := 18, slot := 1, constantValue := 0 }, { name := "starts", type := (.array .int), accessFlags := 18, slot := 2, constantValue := 0 }, { name := "termNumbers", type := (.array (.array .int)), accessFlags := 18, slot := 3, constantValue := 0 }, { name := "frequencies", type := (.array (.array .int)), accessFlags := 18, slot := 4, constantValue := 0 }, { name := "next", type := (.array .int), accessFlags := 18, slot := 5, constantValue := 0 }]
  methods := #[k4m0, k4m1, k4m2, k4m3, k4m4]
  instanceTypes := #[(.array (.object "java/lang/String")), .int, (.array .int), (.array (.array .int)), (.array (.array .int)), (.array .int)]
  staticTypes := #[.int, .int]
  resolved := Array.replicate 119 none
  statics := none }

def pool5 : Array CpInfo := pool [(2, .class_ 4), (1, u "java/lang/Object"), (0, u "<init>"), (0, u "()V"), (7, .class_ 16), (1, u "java/util/Arrays"), (57, .class_ 76), (1, u "java/util/Arrays$NaturalOrder"), (36, .class_ 115), (1, u "java/util/Arrays$LegacyMergeSort"), (1, u "Z"), (32, .methodref 151 152), (0, .class_ 153), (0, .nameAndType 154 155), (0, u "java/lang/System"), (0, u "arraycopy"), (0, u "(Ljava/lang/Object;ILjava/lang/Object;II)V"), (146, u "copyOf"), (1, .methodref 305 306), (0, .class_ 307), (0, .nameAndType 308 309), (0, u "java/lang/Math"), (0, u "min"), (0, u "(II)I"), (65, .class_ 376), (0, u "java/util/Arrays$ArrayList"), (68, u "$assertionsDisabled"), (269, u "MIN_ARRAY_SORT_GRAN"), (0, u "I"), (2, u "INSERTIONSORT_THRESHOLD"), (151, u "([II)[I"), (103, .class_ 976), (0, u "java/util/Arrays$ArrayItr")] 52

def k5m0 : Method := { name := "<init>", desc := "()V", sig := { parameters := [], returnType := none }, accessFlags := 2, code := none }
def k5c1 : Code := { maxStack := 6, maxLocals := 3, code := jdk_65_method_123_code, exceptionTable := #[], attributes := #[] }
def k5m1 : Method := { name := "copyOf", desc := "([II)[I", sig := { parameters := [(.array .int), .int], returnType := some (.array .int) }, accessFlags := 9, code := some k5c1 }
/-- java/util/Arrays -/
def k5 : Class := { plain "java/util/Arrays" (some 0) with
  accessFlags := 49
  interfaces := #[]
  cf := some (fileOf pool5 14 #[.nestMembers #[975, 375, 113, 74]] #[{ accessFlags := 2, nameIndex := 5, descriptorIndex := 6, attributes := #[] }, { accessFlags := 9, nameIndex := 302, descriptorIndex := 871, attributes := #[] }] 49 2 #[] #[{ accessFlags := 26, nameIndex := 715, descriptorIndex := 716, attributes := #[] }, { accessFlags := 26, nameIndex := 719, descriptorIndex := 716, attributes := #[] }, { accessFlags := 4120, nameIndex := 445, descriptorIndex := 117, attributes := #[] }])
  fields := #[{ name := "MIN_ARRAY_SORT_GRAN", type := .int, accessFlags := 26, slot := 0, constantValue := 0 }, { name := "INSERTIONSORT_THRESHOLD", type := .int, accessFlags := 26, slot := 1, constantValue := 0 }, { name := "$assertionsDisabled", type := .boolean, accessFlags := 4120, slot := 2, constantValue := 0 }]
  methods := #[k5m0, k5m1]
  instanceTypes := #[]
  staticTypes := #[.int, .int, .boolean]
  resolved := Array.replicate 1029 none
  statics := none }

def pool6 : Array CpInfo := pool [(2, .class_ 4), (1, u "java/lang/Object"), (0, u "<init>"), (0, u "()V"), (1, .class_ 10), (1, u "java/lang/System"), (0, u "allowSecurityManager"), (0, u "I"), (16, u "cons"), (0, u "Ljava/io/Console;"), (77, .class_ 110), (1, u "java/lang/System$CallersHolder"), (43, u "initialErrStream"), (0, u "Ljava/io/PrintStream;"), (19, u "security"), (0, u "Ljava/lang/SecurityManager;"), (31, .class_ 209), (0, u "java/lang/System$1"), (7, u "props"), (0, u "Ljava/util/Properties;"), (2, u "lineSeparator"), (0, u "Ljava/lang/String;"), (96, .class_ 321), (1, u "java/lang/System$LoggerFinder"), (5, .class_ 328), (0, u "java/lang/System$Logger"), (67, u "err"), (2, u "out"), (91, u "notSupportedJnuEncoding"), (15, u "in"), (17, u "initialIn"), (0, u "Ljava/io/InputStream;"), (35, u "bootLayer"), (0, u "Ljava/lang/ModuleLayer;"), (99, .class_ 664), (0, u "java/lang/System$2"), (9, u "NEVER"), (2, u "MAYBE"), (49, u "arraycopy"), (0, u "(Ljava/lang/Object;ILjava/lang/Object;II)V"), (72, .class_ 802), (0, u "java/lang/System$Logger$Level")] 31

def k6m0 : Method := { name := "<init>", desc := "()V", sig := { parameters := [], returnType := none }, accessFlags := 2, code := none }
def k6m1 : Method := { name := "arraycopy", desc := "(Ljava/lang/Object;ILjava/lang/Object;II)V", sig := { parameters := [(.object "java/lang/Object"), .int, (.object "java/lang/Object"), .int, .int], returnType := none }, accessFlags := 265, code := none }
/-- java/lang/System -/
def k6 : Class := { plain "java/lang/System" (some 0) with
  accessFlags := 49
  interfaces := #[]
  cf := some (fileOf pool6 8 #[.nestMembers #[319, 327, 801, 108, 663, 208]] #[{ accessFlags := 2, nameIndex := 5, descriptorIndex := 6, attributes := #[] }, { accessFlags := 265, nameIndex := 727, descriptorIndex := 728, attributes := #[] }] 49 2 #[] #[{ accessFlags := 25, nameIndex := 507, descriptorIndex := 526, attributes := #[] }, { accessFlags := 25, nameIndex := 399, descriptorIndex := 155, attributes := #[] }, { accessFlags := 25, nameIndex := 396, descriptorIndex := 155, attributes := #[] }, { accessFlags := 10, nameIndex := 525, descriptorIndex := 526, attributes := #[] }, { accessFlags := 26, nameIndex := 674, descriptorIndex := 12, attributes := #[] }, { accessFlags := 26, nameIndex := 677, descriptorIndex := 12, attributes := #[] }, { accessFlags := 10, nameIndex := 11, descriptorIndex := 12, attributes := #[] }, { accessFlags := 74, nameIndex := 175, descriptorIndex := 176, attributes := #[] }, { accessFlags := 10, nameIndex := 491, descriptorIndex := 222, attributes := #[] }, { accessFlags := 74, nameIndex := 29, descriptorIndex := 30, attributes := #[] }, { accessFlags := 74, nameIndex := 154, descriptorIndex := 155, attributes := #[] }, { accessFlags := 10, nameIndex := 217, descriptorIndex := 218, attributes := #[] }, { accessFlags := 10, nameIndex := 221, descriptorIndex := 222, attributes := #[] }, { accessFlags := 8, nameIndex := 562, descriptorIndex := 563, attributes := #[] }])
  fields := #[{ name := "in", type := (.object "java/io/InputStream"), accessFlags := 25, slot := 0, constantValue := 0 }, { name := "out", type := (.object "java/io/PrintStream"), accessFlags := 25, slot := 1, constantValue := 0 }, { name := "err", type := (.object "java/io/PrintStream"), accessFlags := 25, slot := 2, constantValue := 0 }, { name := "initialIn", type := (.object "java/io/InputStream"), accessFlags := 10, slot := 3, constantValue := 0 }, { name := "NEVER", type := .int, accessFlags := 26, slot := 4, constantValue := 0 }, { name := "MAYBE", type := .int, accessFlags := 26, slot := 5, constantValue := 0 }, { name := "allowSecurityManager", type := .int, accessFlags := 10, slot := 6, constantValue := 0 }, { name := "security", type := (.object "java/lang/SecurityManager"), accessFlags := 74, slot := 7, constantValue := 0 }, { name := "notSupportedJnuEncoding", type := (.object "java/lang/String"), accessFlags := 10, slot := 8, constantValue := 0 }, { name := "cons", type := (.object "java/io/Console"), accessFlags := 74, slot := 9, constantValue := 0 }, { name := "initialErrStream", type := (.object "java/io/PrintStream"), accessFlags := 74, slot := 10, constantValue := 0 }, { name := "props", type := (.object "java/util/Properties"), accessFlags := 10, slot := 11, constantValue := 0 }, { name := "lineSeparator", type := (.object "java/lang/String"), accessFlags := 10, slot := 12, constantValue := 0 }, { name := "bootLayer", type := (.object "java/lang/ModuleLayer"), accessFlags := 8, slot := 13, constantValue := 0 }]
  methods := #[k6m0, k6m1]
  instanceTypes := #[]
  staticTypes := #[(.object "java/io/InputStream"), (.object "java/io/PrintStream"), (.object "java/io/PrintStream"), (.object "java/io/InputStream"), .int, .int, .int, (.object "java/lang/SecurityManager"), (.object "java/lang/String"), (.object "java/io/Console"), (.object "java/io/PrintStream"), (.object "java/util/Properties"), (.object "java/lang/String"), (.object "java/lang/ModuleLayer")]
  resolved := Array.replicate 834 none
  statics := none }

def pool7 : Array CpInfo := pool [(1, .methodref 2 3), (0, .class_ 4), (0, .nameAndType 5 6), (0, u "java/lang/Object"), (0, u "<init>"), (0, u "()V"), (0, .class_ 8), (0, u "java/lang/Record")] 13

def k7c0 : Code := { maxStack := 1, maxLocals := 1, code := jdk_30_method_1_code, exceptionTable := #[], attributes := #[] }
def k7m0 : Method := { name := "<init>", desc := "()V", sig := { parameters := [], returnType := none }, accessFlags := 4, code := some k7c0 }
/-- java/lang/Record -/
def k7 : Class := { plain "java/lang/Record" (some 0) with
  accessFlags := 1057
  interfaces := #[]
  cf := some (fileOf pool7 7 #[] #[{ accessFlags := 4, nameIndex := 5, descriptorIndex := 6, attributes := #[] }] 1057 2 #[] #[])
  fields := #[]
  methods := #[k7m0]
  instanceTypes := #[]
  staticTypes := #[]
  resolved := Array.replicate 22 none
  statics := none }

def pool8 : Array CpInfo := pool [(1, .methodref 2 3), (0, .class_ 4), (0, .nameAndType 5 6), (0, u "java/lang/Record"), (0, u "<init>"), (0, u "()V"), (0, .fieldref 8 9), (0, .class_ 10), (0, .nameAndType 11 12), (0, u "com/example/ranked_text_search/rankedtextsearch/TermVectors$Vector"), (0, u "termNumbers"), (0, u "[I"), (0, .fieldref 8 14), (0, .nameAndType 15 12), (0, u "frequencies"), (12, u "([I[I)V"), (6, u "()[I"), (3, .class_ 40), (0, u "com/example/ranked_text_search/rankedtextsearch/TermVectors")] 20

def k8c0 : Code := { maxStack := 2, maxLocals := 3, code := prog_100_method_1_code, exceptionTable := #[], attributes := #[] }
def k8m0 : Method := { name := "<init>", desc := "([I[I)V", sig := { parameters := [(.array .int), (.array .int)], returnType := none }, accessFlags := 1, code := some k8c0 }
def k8c1 : Code := { maxStack := 1, maxLocals := 1, code := prog_100_method_5_code, exceptionTable := #[], attributes := #[] }
def k8m1 : Method := { name := "termNumbers", desc := "()[I", sig := { parameters := [], returnType := some (.array .int) }, accessFlags := 1, code := some k8c1 }
def k8c2 : Code := { maxStack := 1, maxLocals := 1, code := prog_100_method_6_code, exceptionTable := #[], attributes := #[] }
def k8m2 : Method := { name := "frequencies", desc := "()[I", sig := { parameters := [], returnType := some (.array .int) }, accessFlags := 1, code := some k8c2 }
/-- com/example/ranked_text_search/rankedtextsearch/TermVectors$Vector -/
def k8 : Class := { plain "com/example/ranked_text_search/rankedtextsearch/TermVectors$Vector" (some 7) with
  accessFlags := 49
  interfaces := #[]
  cf := some (fileOf pool8 8 #[.nestHost 39] #[{ accessFlags := 1, nameIndex := 5, descriptorIndex := 28, attributes := #[] }, { accessFlags := 1, nameIndex := 11, descriptorIndex := 35, attributes := #[] }, { accessFlags := 1, nameIndex := 15, descriptorIndex := 35, attributes := #[] }] 49 2 #[] #[{ accessFlags := 18, nameIndex := 11, descriptorIndex := 12, attributes := #[] }, { accessFlags := 18, nameIndex := 15, descriptorIndex := 12, attributes := #[] }])
  fields := #[{ name := "termNumbers", type := (.array .int), accessFlags := 18, slot := 0, constantValue := 0 }, { name := "frequencies", type := (.array .int), accessFlags := 18, slot := 1, constantValue := 0 }]
  methods := #[k8m0, k8m1, k8m2]
  instanceTypes := #[(.array .int), (.array .int)]
  staticTypes := #[]
  resolved := Array.replicate 61 none
  statics := none }

def pool9 : Array CpInfo := pool [(1, u "java/lang/Cloneable"), (0, .class_ 1), (0, u "java/lang/Object"), (0, .class_ 3)] 3

/-- java/lang/Cloneable -/
def k9 : Class := { plain "java/lang/Cloneable" (some 0) with
  accessFlags := 1537
  interfaces := #[]
  cf := some (fileOf pool9 2 #[] #[] 1537 4 #[] #[])
  fields := #[]
  methods := #[]
  instanceTypes := #[]
  staticTypes := #[]
  resolved := Array.replicate 8 none
  statics := none }

def pool10 : Array CpInfo := pool [(1, u "java/io/Serializable"), (0, .class_ 1), (0, u "java/lang/Object"), (0, .class_ 3)] 3

/-- java/io/Serializable -/
def k10 : Class := { plain "java/io/Serializable" (some 0) with
  accessFlags := 1537
  interfaces := #[]
  cf := some (fileOf pool10 2 #[] #[] 1537 4 #[] #[])
  fields := #[]
  methods := #[]
  instanceTypes := #[]
  staticTypes := #[]
  resolved := Array.replicate 8 none
  statics := none }

/-- the primitive byte -/
def k11 : Class := { plain "byte" none with kind := .primitive 'B', accessFlags := 0x411 }
/-- [B -/
def k12 : Class := { plain "[B" (some 0) with kind := .array 11 .byte, interfaces := #[9, 10], accessFlags := 1041 }

/-- the primitive int -/
def k13 : Class := { plain "int" none with kind := .primitive 'I', accessFlags := 0x411 }
/-- [I -/
def k14 : Class := { plain "[I" (some 0) with kind := .array 13 .int, interfaces := #[9, 10], accessFlags := 1041 }

def heap : Heap := #[]
/-- [[I -/
def k15 : Class := { plain "[[I" (some 0) with kind := .array 14 (.array .int), interfaces := #[9, 10], accessFlags := 1041 }
def classes : Array Class := #[k0, k1, k2, k3, k4, k5, k6, k7, k8, k9, k10, k11, k12, k13, k14, k15]
def interned : List (Array UInt16 × Addr) := []
def slotsUsed : Nat := 0
def theMethod : MethodId := ⟨1, 1⟩
def args0 : Array Value := #[.int 5, .int 3, .long 5, .long 7, .long 9]
def aboutOver (below : List Frame) : State where
  vm := { classes := classes, interned := interned.toArray }
  heap := heap
  slotsUsed := slotsUsed
  threads := #[{ frames := .invoking theMethod args0 :: below }]
def below0 : List Frame := [.native { method := ⟨0, 0⟩, args := #[] }]
def about1 : State := aboutOver below0
def p0 : Program := .bare "" "" ""
def e0 : Env := launch0.env 0 0 0
theorem w_frames : about1.frames = Frame.invoking theMethod args0 :: below0 := rfl
set_option maxRecDepth 65536 in
theorem w_args : argsFit about1.vm theMethod args0 = true := by decide +kernel
set_option maxRecDepth 65536 in
theorem w_heap : heapFits about1 = true := by decide +kernel
set_option maxRecDepth 65536 in
theorem w_runnable : about1.curStatus? = some .runnable := by decide +kernel
set_option maxRecDepth 65536 in
theorem w_alone : about1.alone = true := by decide +kernel
set_option maxRecDepth 65536 in
theorem w_named : about1.methodNamed? x = some theMethod := by decide +kernel
set_option maxRecDepth 65536 in
theorem w_hears : about1.hears theMethod below0 = true := by decide +kernel
set_option maxRecDepth 65536 in
theorem w_ripe : about1.ripe theMethod args0 below0 = true := by decide +kernel
theorem w_running : about1.status = .running := rfl
set_option maxRecDepth 65536 in
theorem w_room : about1.hasRoom e0.platform room_1 = true :=
  launch0.hasRoom_least _ room_1 (by decide +kernel) (by decide +kernel) (by decide +kernel) (by decide +kernel) (by decide +kernel) (by decide +kernel)
theorem allAtoms_all (ts : List Jvm.Cond) (a : Array Jvm.Value) (st : Jvm.State) : (allAtoms ts).before a st = ts.all (fun c => c.before a st) := by
  induction ts with
  | nil => rfl
  | cons c t ih =>
    show (Jvm.Cond.and c (allAtoms t)).before a st = _
    rw [Jvm.Cond.before_and, ih, List.all_cons]
def words1 : List Jvm.Cond := Jvm.Cond.code x code maxLocals ret :: tables_1
/-- a 'code' word, met by the world's own term for the bytes: nothing is compared byte by byte -/
theorem code_word {y : MethodName} {bytes : ByteArray} {mx : Nat} {rt : Option FieldType} {a : Array Value} {s : State} {m : MethodId} {meth : Method} {c : Code} (h1 : s.methodNamed? y = some m) (h2 : s.vm.method? m = some meth) (h3 : meth.code = some c) (h4 : c.code = bytes)
    (h5 : (c.maxLocals == mx && c.exceptionTable.isEmpty && decide (c.maxStack ≤ mostOperands) && decide (meth.sig.returnType = rt) && !meth.locks && decide (parseMethodDescriptor y.desc = some meth.sig)) = true) : (Jvm.Cond.code y bytes mx rt).before a s = true := by
  simp only [Bool.and_eq_true, beq_iff_eq, Bool.not_eq_true', decide_eq_true_eq] at h5
  obtain ⟨⟨⟨⟨⟨g1, g2⟩, g3⟩, g4⟩, g5⟩, g6⟩ := h5
  simp [Cond.before, Cond.holds, Cond.value, h1, h2, h3, h4, g1, g2, g3, g4, g5, g6]
def isCode : Jvm.Cond → Bool
  | .code _ _ _ _ => true
  | _ => false
theorem all_split {L : List Jvm.Cond} {P : Jvm.Cond → Bool} (h1 : L.all (fun c => isCode c || P c) = true) (h2 : ∀ c ∈ L.filter isCode, P c = true) : L.all P = true := by
  refine List.all_eq_true.mpr fun c hc => ?_
  have h := List.all_eq_true.mp h1 c hc
  rcases Bool.eq_false_or_eq_true (isCode c) with hi | hi
  · exact h2 c (List.mem_filter.mpr ⟨hc, hi⟩)
  · simpa [hi] using h
set_option maxRecDepth 65536 in
theorem w_c0 : (Jvm.Cond.code x code maxLocals ret).before args0 about1 = true := code_word (m := ⟨1, 1⟩) (meth := k1m1) (c := k1c1) (by decide +kernel) rfl rfl rfl (by decide +kernel)
set_option maxRecDepth 65536 in
theorem w_c1 : (Jvm.Cond.code ({ cls := "java/lang/Math", name := "min", desc := "(II)I" } : Jvm.MethodName) jdk_29_method_69_code (2 : Nat) (Option.some Jvm.ClassFile.FieldType.int)).before args0 about1 = true := code_word (m := ⟨2, 2⟩) (meth := k2m2) (c := k2c2) (by decide +kernel) rfl rfl rfl (by decide +kernel)
set_option maxRecDepth 65536 in
theorem w_c2 : (Jvm.Cond.code ({ cls := "java/lang/Math", name := "max", desc := "(II)I" } : Jvm.MethodName) jdk_29_method_65_code (2 : Nat) (Option.some Jvm.ClassFile.FieldType.int)).before args0 about1 = true := code_word (m := ⟨2, 1⟩) (meth := k2m1) (c := k2c1) (by decide +kernel) rfl rfl rfl (by decide +kernel)
set_option maxRecDepth 65536 in
theorem w_c3 : (Jvm.Cond.code ({ cls := "com/example/ranked_text_search/rankedtextsearch/MemoryTermVectors", name := "<init>", desc := "([Ljava/lang/String;I[II)V" } : Jvm.MethodName) prog_50_method_1_code (6 : Nat) (Option.none : Option Jvm.ClassFile.FieldType)).before args0 about1 = true := code_word (m := ⟨4, 0⟩) (meth := k4m0) (c := k4c0) (by decide +kernel) rfl rfl rfl (by decide +kernel)
set_option maxRecDepth 65536 in
theorem w_c4 : (Jvm.Cond.code ({ cls := "java/lang/Object", name := "<init>", desc := "()V" } : Jvm.MethodName) object_method_1_code (1 : Nat) (Option.none : Option Jvm.ClassFile.FieldType)).before args0 about1 = true := code_word (m := ⟨0, 0⟩) (meth := k0m0) (c := k0c0) (by decide +kernel) rfl rfl rfl (by decide +kernel)
set_option maxRecDepth 65536 in
theorem w_c5 : (Jvm.Cond.code ({ cls := "com/example/ranked_text_search/rankedtextsearch/MemoryTermVectors", name := "pages", desc := "(I)[[I" } : Jvm.MethodName) prog_50_method_2_code (3 : Nat) (Option.some (Jvm.ClassFile.FieldType.array (Jvm.ClassFile.FieldType.array Jvm.ClassFile.FieldType.int)))).before args0 about1 = true := code_word (m := ⟨4, 1⟩) (meth := k4m1) (c := k4c1) (by decide +kernel) rfl rfl rfl (by decide +kernel)
set_option maxRecDepth 65536 in
theorem w_c6 : (Jvm.Cond.code ({ cls := "java/util/Arrays", name := "copyOf", desc := "([II)[I" } : Jvm.MethodName) jdk_65_method_123_code (3 : Nat) (Option.some (Jvm.ClassFile.FieldType.array Jvm.ClassFile.FieldType.int))).before args0 about1 = true := code_word (m := ⟨5, 1⟩) (meth := k5m1) (c := k5c1) (by decide +kernel) rfl rfl rfl (by decide +kernel)
set_option maxRecDepth 65536 in
theorem w_c7 : (Jvm.Cond.code ({ cls := "com/example/ranked_text_search/rankedtextsearch/MemoryTermVectors", name := "add", desc := "(III)V" } : Jvm.MethodName) prog_50_method_4_code (5 : Nat) (Option.none : Option Jvm.ClassFile.FieldType)).before args0 about1 = true := code_word (m := ⟨4, 2⟩) (meth := k4m2) (c := k4c2) (by decide +kernel) rfl rfl rfl (by decide +kernel)
set_option maxRecDepth 65536 in
theorem w_c8 : (Jvm.Cond.code ({ cls := "com/example/ranked_text_search/rankedtextsearch/MemoryTermVectors", name := "vector", desc := "(I)Lcom/example/ranked_text_search/rankedtextsearch/TermVectors$Vector;" } : Jvm.MethodName) prog_50_method_5_code (4 : Nat) (Option.some (Jvm.ClassFile.FieldType.object "com/example/ranked_text_search/rankedtextsearch/TermVectors$Vector"))).before args0 about1 = true := code_word (m := ⟨4, 3⟩) (meth := k4m3) (c := k4c3) (by decide +kernel) rfl rfl rfl (by decide +kernel)
set_option maxRecDepth 65536 in
theorem w_c9 : (Jvm.Cond.code ({ cls := "com/example/ranked_text_search/rankedtextsearch/MemoryTermVectors", name := "copy", desc := "([[III)[I" } : Jvm.MethodName) prog_50_method_6_code (7 : Nat) (Option.some (Jvm.ClassFile.FieldType.array Jvm.ClassFile.FieldType.int))).before args0 about1 = true := code_word (m := ⟨4, 4⟩) (meth := k4m4) (c := k4c4) (by decide +kernel) rfl rfl rfl (by decide +kernel)
set_option maxRecDepth 65536 in
theorem w_c10 : (Jvm.Cond.code ({ cls := "com/example/ranked_text_search/rankedtextsearch/TermVectors$Vector", name := "<init>", desc := "([I[I)V" } : Jvm.MethodName) prog_100_method_1_code (3 : Nat) (Option.none : Option Jvm.ClassFile.FieldType)).before args0 about1 = true := code_word (m := ⟨8, 0⟩) (meth := k8m0) (c := k8c0) (by decide +kernel) rfl rfl rfl (by decide +kernel)
set_option maxRecDepth 65536 in
theorem w_c11 : (Jvm.Cond.code ({ cls := "java/lang/Record", name := "<init>", desc := "()V" } : Jvm.MethodName) jdk_30_method_1_code (1 : Nat) (Option.none : Option Jvm.ClassFile.FieldType)).before args0 about1 = true := code_word (m := ⟨7, 0⟩) (meth := k7m0) (c := k7c0) (by decide +kernel) rfl rfl rfl (by decide +kernel)
set_option maxRecDepth 65536 in
theorem w_c12 : (Jvm.Cond.code ({ cls := "com/example/ranked_text_search/rankedtextsearch/TermVectors$Vector", name := "termNumbers", desc := "()[I" } : Jvm.MethodName) prog_100_method_5_code (1 : Nat) (Option.some (Jvm.ClassFile.FieldType.array Jvm.ClassFile.FieldType.int))).before args0 about1 = true := code_word (m := ⟨8, 1⟩) (meth := k8m1) (c := k8c1) (by decide +kernel) rfl rfl rfl (by decide +kernel)
set_option maxRecDepth 65536 in
theorem w_c13 : (Jvm.Cond.code ({ cls := "com/example/ranked_text_search/rankedtextsearch/TermVectors$Vector", name := "frequencies", desc := "()[I" } : Jvm.MethodName) prog_100_method_6_code (1 : Nat) (Option.some (Jvm.ClassFile.FieldType.array Jvm.ClassFile.FieldType.int))).before args0 about1 = true := code_word (m := ⟨8, 2⟩) (meth := k8m2) (c := k8c2) (by decide +kernel) rfl rfl rfl (by decide +kernel)
def codes1 : List Jvm.Cond := [Jvm.Cond.code x code maxLocals ret, Jvm.Cond.code ({ cls := "java/lang/Math", name := "min", desc := "(II)I" } : Jvm.MethodName) jdk_29_method_69_code (2 : Nat) (Option.some Jvm.ClassFile.FieldType.int), Jvm.Cond.code ({ cls := "java/lang/Math", name := "max", desc := "(II)I" } : Jvm.MethodName) jdk_29_method_65_code (2 : Nat) (Option.some Jvm.ClassFile.FieldType.int), Jvm.Cond.code ({ cls := "com/example/ranked_text_search/rankedtextsearch/MemoryTermVectors", name := "<init>", desc := "([Ljava/lang/String;I[II)V" } : Jvm.MethodName) prog_50_method_1_code (6 : Nat) (Option.none : Option Jvm.ClassFile.FieldType), Jvm.Cond.code ({ cls := "java/lang/Object", name := "<init>", desc := "()V" } : Jvm.MethodName) object_method_1_code (1 : Nat) (Option.none : Option Jvm.ClassFile.FieldType), Jvm.Cond.code ({ cls := "com/example/ranked_text_search/rankedtextsearch/MemoryTermVectors", name := "pages", desc := "(I)[[I" } : Jvm.MethodName) prog_50_method_2_code (3 : Nat) (Option.some (Jvm.ClassFile.FieldType.array (Jvm.ClassFile.FieldType.array Jvm.ClassFile.FieldType.int))), Jvm.Cond.code ({ cls := "java/util/Arrays", name := "copyOf", desc := "([II)[I" } : Jvm.MethodName) jdk_65_method_123_code (3 : Nat) (Option.some (Jvm.ClassFile.FieldType.array Jvm.ClassFile.FieldType.int)), Jvm.Cond.code ({ cls := "com/example/ranked_text_search/rankedtextsearch/MemoryTermVectors", name := "add", desc := "(III)V" } : Jvm.MethodName) prog_50_method_4_code (5 : Nat) (Option.none : Option Jvm.ClassFile.FieldType), Jvm.Cond.code ({ cls := "com/example/ranked_text_search/rankedtextsearch/MemoryTermVectors", name := "vector", desc := "(I)Lcom/example/ranked_text_search/rankedtextsearch/TermVectors$Vector;" } : Jvm.MethodName) prog_50_method_5_code (4 : Nat) (Option.some (Jvm.ClassFile.FieldType.object "com/example/ranked_text_search/rankedtextsearch/TermVectors$Vector")), Jvm.Cond.code ({ cls := "com/example/ranked_text_search/rankedtextsearch/MemoryTermVectors", name := "copy", desc := "([[III)[I" } : Jvm.MethodName) prog_50_method_6_code (7 : Nat) (Option.some (Jvm.ClassFile.FieldType.array Jvm.ClassFile.FieldType.int)), Jvm.Cond.code ({ cls := "com/example/ranked_text_search/rankedtextsearch/TermVectors$Vector", name := "<init>", desc := "([I[I)V" } : Jvm.MethodName) prog_100_method_1_code (3 : Nat) (Option.none : Option Jvm.ClassFile.FieldType), Jvm.Cond.code ({ cls := "java/lang/Record", name := "<init>", desc := "()V" } : Jvm.MethodName) jdk_30_method_1_code (1 : Nat) (Option.none : Option Jvm.ClassFile.FieldType), Jvm.Cond.code ({ cls := "com/example/ranked_text_search/rankedtextsearch/TermVectors$Vector", name := "termNumbers", desc := "()[I" } : Jvm.MethodName) prog_100_method_5_code (1 : Nat) (Option.some (Jvm.ClassFile.FieldType.array Jvm.ClassFile.FieldType.int)), Jvm.Cond.code ({ cls := "com/example/ranked_text_search/rankedtextsearch/TermVectors$Vector", name := "frequencies", desc := "()[I" } : Jvm.MethodName) prog_100_method_6_code (1 : Nat) (Option.some (Jvm.ClassFile.FieldType.array Jvm.ClassFile.FieldType.int))]
set_option maxRecDepth 65536 in
theorem codes_eq : words1.filter isCode = codes1 := rfl
theorem w_codes : ∀ c ∈ words1.filter isCode, c.before args0 about1 = true := by
  rw [codes_eq]
  intro c hc
  simp only [codes1, List.mem_cons, List.not_mem_nil, or_false] at hc
  rcases hc with rfl | rfl | rfl | rfl | rfl | rfl | rfl | rfl | rfl | rfl | rfl | rfl | rfl | rfl
  · exact w_c0
  · exact w_c1
  · exact w_c2
  · exact w_c3
  · exact w_c4
  · exact w_c5
  · exact w_c6
  · exact w_c7
  · exact w_c8
  · exact w_c9
  · exact w_c10
  · exact w_c11
  · exact w_c12
  · exact w_c13
set_option maxRecDepth 65536 in
theorem w_t1 : (words1.take 24).all (fun c => isCode c || c.before args0 about1) = true := by decide +kernel
set_option maxRecDepth 65536 in
theorem w_t2 : ((words1.drop 24).take 24).all (fun c => isCode c || c.before args0 about1) = true := by decide +kernel
set_option maxRecDepth 65536 in
theorem w_t3 : (((words1.drop 24).drop 24).take 24).all (fun c => isCode c || c.before args0 about1) = true := by decide +kernel
set_option maxRecDepth 65536 in
theorem w_t4 : (((words1.drop 24).drop 24).drop 24).all (fun c => isCode c || c.before args0 about1) = true := by decide +kernel
theorem w_tables : (allAtoms (Jvm.Cond.code x code maxLocals ret :: tables_1)).before args0 about1 = true := by
  rw [allAtoms_all]
  show words1.all (fun c => c.before args0 about1) = true
  refine all_split ?_ w_codes
  rw [← List.take_append_drop 24 words1, List.all_append, w_t1, ← List.take_append_drop 24 (words1.drop 24), List.all_append, w_t2, ← List.take_append_drop 24 ((words1.drop 24).drop 24), List.all_append, w_t3, w_t4]
  rfl
set_option maxRecDepth 65536 in
theorem w_case : (Jvm.Cond.and given_1 narrow_1).before args0 about1 = true := by decide +kernel
theorem w_applies : (headSpec (Jvm.Cond.code x code maxLocals ret :: tables_1) room_1).applies x e0.platform about1 = true :=
  (Spec.applies_iff w_frames).mpr ⟨w_running, w_runnable, w_alone, w_named, w_hears, w_ripe, w_room, w_tables⟩
theorem atStart : AtStart classFile x code maxLocals ret World_1 tables_1 room_1 Calls_1 rest_1 Pre_1 launch0 p0 e0 about1 theMethod args0 below0 :=
  ⟨lists_1, trivial, launch0.admits_env _ _ _, launch0.least_env, fairChoices_fair.cas, fairChoices_fair.clock, w_frames, w_args, w_heap, w_applies, trivial, trivial, w_case⟩
end start1
theorem witness_1 : WitnessClaimed_1 := ⟨start1.p0, start1.e0, start1.about1, start1.theMethod, start1.args0, start1.below0, start1.atStart⟩
end Jvm.Pilot.@@N@@
