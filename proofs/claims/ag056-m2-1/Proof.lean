import JvmDerived
import JvmDerived.Pilot.@@N@@Statement
import JvmDerived.Pilot.@@N@@Code
set_option linter.unusedVariables false
set_option linter.unusedSimpArgs false
namespace Jvm.Pilot.@@N@@
open Jvm Jvm.ClassFile Sem Op Lib Jvm.Free Jvm.Stand Jvm.LawKit Jvm.RoadKit Bundle Jvm.Pilot.@@N@@.Jvm.D
abbrev own_Go (p : Program) (e : Env) (below : List Frame) (A B : State) : Prop := ∀ t, Steps p.tables e below A t → Steps p.tables e below B t
section OwnArr
variable {Z : State} {h h' : Heap} {a b : Addr} {ty : FieldType} {n i : Nat} {f : Nat → Value} {v : Value}
def own_Av (Z : State) (h : Heap) (a : Addr) (ty : FieldType) (n : Nat) (f : Nat → Value) : Prop := ∃ c : Cell, Arr Z h a c ty ∧ c.slots.size = n ∧ n < 2 ^ 31 ∧ ∀ j, j < n → c.slots[j]? = some (f j)
theorem own_Av.lt (F : own_Av Z h a ty n f) : a < h.size := by obtain ⟨c, A, -⟩ := F; exact A.lt
theorem own_Av.ext (F : own_Av Z h a ty n f) (E : Ext h h') : own_Av Z h' a ty n f := by obtain ⟨c, A, r⟩ := F; exact ⟨c, A.ext E, r⟩
theorem own_Av.other {sl : Nat} (F : own_Av Z h a ty n f) (W : Wr h h' b sl v) (q : a ≠ b) : own_Av Z h' a ty n f := by obtain ⟨c, A, r⟩ := F; exact ⟨c, A.other W q, r⟩
theorem own_Av.keep {ws : List Addr} (F : own_Av Z h a ty n f) (K : Keep h h' ws) (q : a ∉ ws) : own_Av Z h' a ty n f := by obtain ⟨c, A, r⟩ := F; exact ⟨c, ⟨K.2.1 a c A.1 q, A.2⟩, r⟩
theorem own_Av.congr {g : Nat → Value} (F : own_Av Z h a ty n f) (q : ∀ j, j < n → f j = g j) : own_Av Z h a ty n g := by obtain ⟨c, A, r1, r2, r3⟩ := F; exact ⟨c, A, r1, r2, fun j hj => by rw [r3 j hj, q j hj]⟩
theorem own_Av.new {k : ClassId} {z : Int32} (A : Arr Z h a (newA k ty z) ty) (hz : ¬ z < 0) (hn : z.toNatClampNeg = n) : own_Av Z h a ty n (fun _ => defaultValue ty) := by
  refine ⟨_, A, (sz_new _ _ _).trans hn, hn ▸ (back32 hz).2, fun j hj => ?_⟩
  simp [newA, hn, hj]
theorem own_Av.set (F : own_Av Z h a ty n f) (W : Wr h h' a i v) : own_Av Z h' a ty n (fun q => if q = i then v else f q) := by
  obtain ⟨c, A, r1, r2, r3⟩ := F
  refine ⟨_, A.same W, (sz_set _ _ _).trans r1, r2, fun j hj => ?_⟩
  have e : (c.setSlot i v).slots = c.slots.setIfInBounds i v := rfl
  rw [e, Array.getElem?_setIfInBounds]
  by_cases q : i = j
  · subst q
    simp [r1, hj]
  · have q' : ¬ j = i := fun z => q z.symm
    simp [q, q', r3 j hj]
end OwnArr
section OwnArrSteps
variable {p : Program} {l : Launch} {e : Env} {R : Room} {s : State} {m : MethodId} {args : Array Value} {below : List Frame} {meth : Method} {c : Code} {T : State} {locs : List Loc} {cells slots : Nat} {Z : State} {h : Heap} {a : Addr} {n i : Nat} {f : Nat → Value} {v : Value}
theorem own_in {c : Cell} {j : Int32} (r1 : c.slots.size = n) (h1 : ¬ j < 0) (h2 : j.toNatClampNeg = i) (h3 : i < n) : ¬ (j < 0 ∨ c.slots.size ≤ j.toNatClampNeg) := fun q => q.elim h1 fun z => by rw [r1, h2] at z; exact absurd h3 (Nat.not_lt.mpr z)
theorem own_iaload (X : Stand p l e R s m args below meth c T locs cells slots) (hx : p.tables.exec = Jvm.exec) (hZ : Z.Warmed39 s.vm) (eT : T.heap = h) (F : own_Av Z h a .int n f) {j : Int32} (h1 : ¬ j < 0) (h2 : j.toNatClampNeg = i) (h3 : i < n) (h4 : f i = v)
    {g : JFrame} (hg : g.method = m) {rest : List Value} (hs : g.stack = .int j :: .ref a :: rest) (hd : decode c.code g.pc = .ok (.iaload, 1)) : ∀ target, Steps p.tables e below (T.setTop { g with pc := g.pc + 1, stack := v :: rest }) target → Steps p.tables e below (T.setTop g) target := by
  obtain ⟨cl, A, r1, r2, r3⟩ := F
  intro t k
  exact X.iaload hx (by rw [eT]; exact A.1) (State.isArrayOf_alike hZ.alike A.2.1) A.2.2 (own_in r1 h1 h2 h3) (by rw [h2, r3 i h3, h4]) hg hs hd t k
theorem own_laload (X : Stand p l e R s m args below meth c T locs cells slots) (hx : p.tables.exec = Jvm.exec) (hZ : Z.Warmed39 s.vm) (eT : T.heap = h) (F : own_Av Z h a .long n f) {j : Int32} (h1 : ¬ j < 0) (h2 : j.toNatClampNeg = i) (h3 : i < n) (h4 : f i = v)
    {g : JFrame} (hg : g.method = m) {rest : List Value} (hs : g.stack = .int j :: .ref a :: rest) (hd : decode c.code g.pc = .ok (.laload, 1)) : ∀ target, Steps p.tables e below (T.setTop { g with pc := g.pc + 1, stack := v :: rest }) target → Steps p.tables e below (T.setTop g) target := by
  obtain ⟨cl, A, r1, r2, r3⟩ := F
  intro t k
  exact X.laload hx (by rw [eT]; exact A.1) (State.isArrayOf_alike hZ.alike A.2.1) A.2.2 (own_in r1 h1 h2 h3) (by rw [h2, r3 i h3, h4]) hg hs hd t k
theorem own_aaload {ty : FieldType} (hty : ty.isReference = true) (X : Stand p l e R s m args below meth c T locs cells slots) (hx : p.tables.exec = Jvm.exec) (hZ : Z.Warmed39 s.vm) (eT : T.heap = h) (F : own_Av Z h a ty n f) {j : Int32} (h1 : ¬ j < 0) (h2 : j.toNatClampNeg = i) (h3 : i < n) (h4 : f i = v)
    {g : JFrame} (hg : g.method = m) {rest : List Value} (hs : g.stack = .int j :: .ref a :: rest) (hd : decode c.code g.pc = .ok (.aaload, 1)) : ∀ target, Steps p.tables e below (T.setTop { g with pc := g.pc + 1, stack := v :: rest }) target → Steps p.tables e below (T.setTop g) target := by
  obtain ⟨cl, A, r1, r2, r3⟩ := F
  intro t k
  exact X.aaload hx (by rw [eT]; exact A.1) (State.isArrayOf_alike hZ.alike A.2.1) hty A.2.2 (own_in r1 h1 h2 h3) (by rw [h2, r3 i h3, h4]) hg hs hd t k
theorem own_caload (X : Stand p l e R s m args below meth c T locs cells slots) (hx : p.tables.exec = Jvm.exec) (hZ : Z.Warmed39 s.vm) (eT : T.heap = h) (F : own_Av Z h a .char n f) {j : Int32} (h1 : ¬ j < 0) (h2 : j.toNatClampNeg = i) (h3 : i < n) (h4 : f i = v)
    {g : JFrame} (hg : g.method = m) {rest : List Value} (hs : g.stack = .int j :: .ref a :: rest) (hd : decode c.code g.pc = .ok (.caload, 1)) : ∀ target, Steps p.tables e below (T.setTop { g with pc := g.pc + 1, stack := v :: rest }) target → Steps p.tables e below (T.setTop g) target := by
  obtain ⟨cl, A, r1, r2, r3⟩ := F
  intro t k
  exact X.caload hx (by rw [eT]; exact A.1) (State.isArrayOf_alike hZ.alike A.2.1) A.2.2 (own_in r1 h1 h2 h3) (by rw [h2, r3 i h3, h4]) hg hs hd t k
theorem own_alen {ty : FieldType} (X : Stand p l e R s m args below meth c T locs cells slots) (hx : p.tables.exec = Jvm.exec) (hZ : Z.Warmed39 s.vm) (eT : T.heap = h) (F : own_Av Z h a ty n f)
    {g : JFrame} (hg : g.method = m) {rest : List Value} (hs : g.stack = .ref a :: rest) (hd : decode c.code g.pc = .ok (.arraylength, 1)) : ∀ target, Steps p.tables e below (T.setTop { g with pc := g.pc + 1, stack := .int (Int32.ofNat n) :: rest }) target → Steps p.tables e below (T.setTop g) target := by
  obtain ⟨cl, A, r1, r2, r3⟩ := F
  intro t k
  refine X.arraylength hx (by rw [eT]; exact A.1) (State.isArrayOf_alike hZ.alike A.2.1) hg hs hd t ?_
  rw [r1]
  exact k
theorem own_iastore (X : Stand p l e R s m args below meth c T locs cells slots) (hx : p.tables.exec = Jvm.exec) (hZ : Z.Warmed39 s.vm) (eT : T.heap = h) (F : own_Av Z h a .int n f) {j x : Int32} (h1 : ¬ j < 0) (h2 : j.toNatClampNeg = i) (h3 : i < n)
    {g : JFrame} (hg : g.method = m) {rest : List Value} (hs : g.stack = .int x :: .int j :: .ref a :: rest) (hd : decode c.code g.pc = .ok (.iastore, 1)) :
    ∃ T' h', Stand p l e R s m args below meth c T' (locs ++ [⟨a, i⟩]) cells slots ∧ T'.heap = h' ∧ Wr h h' a i (.int x) ∧ own_Av Z h' a .int n (fun q => if q = i then .int x else f q) ∧ ∀ target, Steps p.tables e below (T'.setTop { g with pc := g.pc + 1, stack := rest }) target → Steps p.tables e below (T.setTop g) target := by
  have F0 := F
  obtain ⟨cl, A, r1, r2, r3⟩ := F
  obtain ⟨T', h', X', e', W', st'⟩ := stI X hx hZ eT A (own_in r1 h1 h2 h3) hg hs hd
  rw [h2] at X' W'
  exact ⟨T', h', X', e', W', F0.set W', st'⟩
theorem own_lastore (X : Stand p l e R s m args below meth c T locs cells slots) (hx : p.tables.exec = Jvm.exec) (hZ : Z.Warmed39 s.vm) (eT : T.heap = h) (F : own_Av Z h a .long n f) {j : Int32} {x : Int64} (h1 : ¬ j < 0) (h2 : j.toNatClampNeg = i) (h3 : i < n)
    {g : JFrame} (hg : g.method = m) {rest : List Value} (hs : g.stack = .long x :: .int j :: .ref a :: rest) (hd : decode c.code g.pc = .ok (.lastore, 1)) :
    ∃ T' h', Stand p l e R s m args below meth c T' (locs ++ [⟨a, i⟩]) cells slots ∧ T'.heap = h' ∧ Wr h h' a i (.long x) ∧ own_Av Z h' a .long n (fun q => if q = i then .long x else f q) ∧ ∀ target, Steps p.tables e below (T'.setTop { g with pc := g.pc + 1, stack := rest }) target → Steps p.tables e below (T.setTop g) target := by
  have F0 := F
  obtain ⟨cl, A, r1, r2, r3⟩ := F
  obtain ⟨T', h', X', e', W', st'⟩ := stJ X hx hZ eT A (own_in r1 h1 h2 h3) hg hs hd
  rw [h2] at X' W'
  exact ⟨T', h', X', e', W', F0.set W', st'⟩
end OwnArrSteps
section OwnCp
variable {p : Program} {l : Launch} {e : Env} {R : Room} {s : State} {m : MethodId} {args : Array Value} {below : List Frame} {meth : Method} {c : Code} {T : State} {locs : List Loc} {cells slots : Nat} {Z : State} {h : Heap} {a b : Addr} {n n' i j k : Nat} {f f' : Nat → Value} {v : Value}
theorem own_nat32 {n : Nat} (h : n < 2 ^ 31) : (Int32.ofNat n).toNatClampNeg = n ∧ ¬ Int32.ofNat n < 0 := by
  have e : (Int32.ofNat n).toInt = n := Int32.toInt_ofNat_small h
  have e0 : (0 : Int32).toInt = 0 := rfl
  refine ⟨?_, ?_⟩
  · show (Int32.ofNat n).toInt.toNat = n
    rw [e]; rfl
  · rw [Int32.lt_iff_toInt_lt, e, e0]
    omega
theorem own_Av.arv {ty : FieldType} (F : own_Av Z h a ty n f) (d : Value) (hf : ∀ q, q < n → fits ty (f q) = true) : ∃ k, Arv Z h a k ty (Int32.ofNat n) ((List.range n).map f) d := by
  obtain ⟨cl, A, r1, r2, r3⟩ := F
  have hg : ∀ q, q < n → ((List.range n).map f).getD q d = f q := fun q hq => by simp [List.getD, hq]
  refine ⟨cl.cls, cl, A, rfl, ?_, (own_nat32 r2).2, fun q hq => ?_, fun q hq => ?_⟩
  · rw [r1, (own_nat32 r2).1]
  · rw [r1] at hq
    rw [r3 q hq, hg q hq]
  · rw [r1] at hq
    rw [hg q hq]; exact hf q hq
theorem own_Av.ofArv {ty : FieldType} {kc : ClassId} {vs : List Value} {d : Value} {g : Nat → Value} (hn : n < 2 ^ 31) (F : Arv Z h a kc ty (Int32.ofNat n) vs d) (hg : ∀ q, q < n → vs.getD q d = g q) : own_Av Z h a ty n g := by
  obtain ⟨cl, A, r0, r1, r2, H, G⟩ := F
  rw [(own_nat32 hn).1] at r1
  exact ⟨cl, A, r1, hn, fun q hq => by rw [H q (by rw [r1]; exact hq), hg q hq]⟩
theorem own_Av.small {ty : FieldType} (F : own_Av Z h a ty n f) : n < 2 ^ 31 := by obtain ⟨cl, A, r1, r2, r3⟩ := F; exact r2
theorem own_splice {f g : Nat → Value} {d : Value} {i j k n n' : Nat} (h4 : i + k ≤ n) (h5 : j + k ≤ n') (q : Nat) (hq : q < n') :
    (((List.range n').map g).take j ++ ((List.range k).map fun z => ((List.range n).map f).getD (i + z) d) ++ ((List.range n').map g).drop (j + k)).getD q d = if j ≤ q ∧ q < j + k then f (i + (q - j)) else g q := by
  have e1 : (((List.range n').map g).take j).length = j := by simp; omega
  have e2 : ((List.range k).map fun z => ((List.range n).map f).getD (i + z) d).length = k := by simp
  have e3 : (((List.range n').map g).take j ++ ((List.range k).map fun z => ((List.range n).map f).getD (i + z) d)).length = j + k := by rw [List.length_append, e1, e2]
  simp only [List.getD_eq_getElem?_getD] at e2 e3 ⊢
  by_cases q1 : q < j
  · rw [if_neg (by omega), List.getElem?_append_left (by rw [e3]; omega), List.getElem?_append_left (by rw [e1]; exact q1), List.getElem?_take_of_lt q1]
    simp [hq]
  · by_cases q2 : q < j + k
    · rw [if_pos ⟨by omega, q2⟩, List.getElem?_append_left (by rw [e3]; exact q2), List.getElem?_append_right (by rw [e1]; omega), e1]
      have z1 : q - j < k := by omega
      have z2 : i + (q - j) < n := by omega
      simp [z1, z2]
    · rw [if_neg (by omega), List.getElem?_append_right (by rw [e3]; omega), e3, List.getElem?_drop]
      have z1 : j + k + (q - (j + k)) = q := by omega
      rw [z1]
      simp [hq]
theorem own_cp {ty : FieldType} {a0 : Array Value} {own : String} {index : Nat} {n0 : Nat} (X : Stand p l e R s m args below meth c T locs cells slots) (hx : p.tables.exec = Jvm.exec) (hZ : Z.Warmed39 s.vm) (hown : s.vm.findClass own = some m.cls)
    (w1 : (Cond.methodLink own index Jvm.Stand.acN).before a0 Z = true) (w2 : (Cond.native Jvm.Stand.acN).before a0 Z = true) (w3 : (Cond.static Jvm.Stand.acN).before a0 Z = true) (w4 : (Cond.initialized "java/lang/System").before a0 Z = true) (eT : T.heap = h)
    (hty : refKind ty = false) (A : own_Av Z h a ty n f) (B : own_Av Z h b ty n' f') (fa : ∀ q, q < n → fits ty (f q) = true) (fb : ∀ q, q < n' → fits ty (f' q) = true)
    {sp dp nn : Int32} (h1 : ¬ sp < 0) (h1' : sp.toNatClampNeg = i) (h2 : ¬ dp < 0) (h2' : dp.toNatClampNeg = j) (h3 : ¬ nn < 0) (h3' : nn.toNatClampNeg = k) (h4 : i + k ≤ n) (h5 : j + k ≤ n') (N : Fr n0 locs) (ge : n0 ≤ b)
    {g : JFrame} (hg : g.method = m) (hsize : g.locals.size = c.maxLocals) {rest : List Value} (hs : g.stack = .int nn :: .int dp :: .ref b :: .int sp :: .ref a :: rest) (hd : decode c.code g.pc = .ok (.invokestatic index, 3))
    (hf : 1 ≤ R.frames) {W : Nat} (hW : 2 * g.monitorRoom + (rest.map fun v => v.category).sum ≤ W) (hlo : W + 18 ≤ R.locals) :
    ∃ T' h' L, Stand p l e R s m args below meth c T' L cells slots ∧ T'.heap = h' ∧ Fr n0 L ∧ Keep h h' [b] ∧ own_Av Z h' b ty n' (fun q => if j ≤ q ∧ q < j + k then f (i + (q - j)) else f' q) ∧
      ∀ target, Steps p.tables e below (T'.setTop { g with pc := g.pc + 3, stack := rest }) target → Steps p.tables e below (T.setTop g) target := by
  have sa := A.small
  have sb := B.small
  obtain ⟨ka, A'⟩ := A.arv (.int 0) fa
  obtain ⟨kb, B'⟩ := B.arv (.int 0) fb
  obtain ⟨T', h', L, X', e', N', K', V', st'⟩ := cpA X hx hZ hown w1 w2 w3 w4 eT A' B' (Or.inl ⟨rfl, hty⟩) h1 h2 h3 (by rw [h1', h3', (own_nat32 sa).1]; exact h4) (by rw [h2', h3', (own_nat32 sb).1]; exact h5) rfl (by rw [h2', h3']; simpa using h5) N ge hg hsize hs hd hf hW (by
    have q : nativeFrameWords "java/lang/System" "arraycopy" 5 = 7 := by decide
    rw [q]; exact hlo)
  rw [h1', h2', h3'] at V'
  exact ⟨T', h', L, X', e', N', K', own_Av.ofArv sb V' (fun q hq => own_splice h4 h5 q hq), st'⟩
end OwnCp

def own_M (Z : State) (h : Heap) (n0 : Nat) (a : Addr) (st : Int32) (n : Nat) (f : Nat → Int64) : Prop := Exa Z h a "com/example/saturation/saturation/WalkMemo" ∧ n0 ≤ a ∧ Fld Z h a "com/example/saturation/saturation/WalkMemo" "stamp" "I" (.int st) ∧ ∃ b, n0 ≤ b ∧ a ≠ b ∧ Fld Z h a "com/example/saturation/saturation/WalkMemo" "entries" "[J" (.ref b) ∧ own_Av Z h b .long n (fun q => .long (f q))
theorem own_M.to {Z : State} {h : Heap} {n0 : Nat} {a : Addr} {st st' : Int32} {n n' : Nat} {f f' : Nat → Int64} (M : own_M Z h n0 a st n f) (e1 : st = st') (e2 : n = n') (e3 : ∀ q, q < n → f q = f' q) : own_M Z h n0 a st' n' f' := by
  subst e1 e2
  obtain ⟨m1, m2, m3, b, m4, m5, m6, m7⟩ := M
  exact ⟨m1, m2, m3, b, m4, m5, m6, m7.congr fun q hq => by rw [e3 q hq]⟩
def own_nl (n k : Nat) : Nat := if n < k then max k (2 * n) else n
def own_max (x y : Int32) : Int32 := if x < y then y else x
def own_mn (x y : Int32) : Int32 := if y < x then y else x
def own_enc (st r : Int32) : Int64 := ((st.toInt64) <<< ((32 : Int32) &&& 0x3f).toInt64) ||| (r.toInt64)
def own_get (st : Int32) (x : Int64) : Int32 := if (((x.toUInt64 >>> ((32 : Int32) &&& 0x3f).toInt64.toUInt64).toInt64).toInt32) = st then x.toInt32 else -1
theorem own_encI (st r : Int32) (hr : 0 ≤ r.toInt) : ((own_enc st r).toInt - (st.toInt * 4294967296 + r.toInt)) % 18446744073709551616 = 0 := by
  have a1 := c_lshl st.toInt64 32 32 (by decide)
  have e : ((2 ^ 32 : Nat) : Int) = 4294967296 := rfl
  rw [e, c_i2l] at a1
  have r1 := rng32 r
  have a2 := c_orL ((st.toInt64) <<< ((32 : Int32) &&& 0x3f).toInt64) r.toInt64 32 (by decide) 4294967296 rfl (by omega) (by rw [c_i2l]; exact hr) (by rw [c_i2l]; omega)
  rw [c_i2l] at a2
  unfold own_enc
  omega
theorem own_hi (st r : Int32) (hr : 0 ≤ r.toInt) : ((((own_enc st r).toUInt64 >>> ((32 : Int32) &&& 0x3f).toInt64.toUInt64).toInt64).toInt32) = st := by
  have a1 := own_encI st r hr
  have a2 := c_lushr (own_enc st r) 32 32 (by decide) (by decide)
  have e : ((2 ^ 32 : Nat) : Int) = 4294967296 := rfl
  rw [e] at a2
  have a3 := c_l2i (((own_enc st r).toUInt64 >>> ((32 : Int32) &&& 0x3f).toInt64.toUInt64).toInt64)
  rw [a2] at a3
  have r0 := rng32 r
  have r1 := rng32 st
  have r2 := rng32 ((((own_enc st r).toUInt64 >>> ((32 : Int32) &&& 0x3f).toInt64.toUInt64).toInt64).toInt32)
  rw [← Int32.toInt_inj]
  generalize ((((own_enc st r).toUInt64 >>> ((32 : Int32) &&& 0x3f).toInt64.toUInt64).toInt64).toInt32).toInt = A at *
  generalize (own_enc st r).toInt = B at *
  omega
theorem own_lo (st r : Int32) (hr : 0 ≤ r.toInt) : (own_enc st r).toInt32 = r := by
  have a1 := own_encI st r hr
  have a3 := c_l2i (own_enc st r)
  have r0 := rng32 r
  have r2 := rng32 ((own_enc st r).toInt32)
  rw [← Int32.toInt_inj]
  omega
theorem own_get_same (st r : Int32) (hr : 0 ≤ r.toInt) : own_get st (own_enc st r) = r := by
  unfold own_get
  rw [if_pos (own_hi st r hr), own_lo st r hr]
theorem own_get_other (st st' r : Int32) (hr : 0 ≤ r.toInt) (h : st ≠ st') : own_get st' (own_enc st r) = -1 := by
  unfold own_get
  rw [if_neg (by rw [own_hi st r hr]; exact h)]
theorem own_get_zero (st : Int32) (h : (0 : Int32) ≠ st) : own_get st 0 = -1 := by
  unfold own_get
  rw [if_neg]
  have e : ((((0 : Int64).toUInt64 >>> ((32 : Int32) &&& 0x3f).toInt64.toUInt64).toInt64).toInt32) = 0 := by decide
  rw [e]; exact h
theorem own_pos (x : Int32) : 0 ≤ (x &&& 2147483647).toInt := by
  have h1 := c_mask x 2147483647 31 (by decide) (by decide)
  rw [h1]; exact Int.emod_nonneg _ (by decide)
theorem own_inj {x y : Int32} (hx : ¬ x < 0) (hy : ¬ y < 0) (h : x.toNatClampNeg = y.toNatClampNeg) : x = y := by
  rw [← Int32.toInt_inj, nat_of hx, nat_of hy, h]
theorem own_nn {x : Int32} : ¬ x < 0 ↔ 0 ≤ x.toInt := by
  have e0 : (0 : Int32).toInt = 0 := rfl
  rw [Int32.lt_iff_toInt_lt, e0]; omega
theorem own_idx (x n : Int32) (hn : 0 < n.toInt) : ¬ ((x &&& 2147483647) % n) < 0 ∧ ((x &&& 2147483647) % n).toNatClampNeg < n.toNatClampNeg := by
  have h := (c_iremV (x &&& 2147483647) n).1 (own_pos x) hn
  have q1 : ¬ ((x &&& 2147483647) % n) < 0 := own_nn.mpr h.1
  have q2 : ¬ n < 0 := own_nn.mpr (by omega)
  refine ⟨q1, ?_⟩
  have z1 := nat_of q1
  have z2 := nat_of q2
  omega
theorem own_two (n k : Nat) (u : Int32) (hn : n ≤ 16) (hu : ¬ u < 0) (hk : u.toNatClampNeg = k) (hk16 : k ≤ 16) : ¬ own_max u ((2 : Int32) * Int32.ofNat n) < 0 ∧ (own_max u ((2 : Int32) * Int32.ofNat n)).toNatClampNeg = max k (2 * n) := by
  have e : (Int32.ofNat n).toInt = n := Int32.toInt_ofNat_small (by omega)
  have a := c_imul 2 (Int32.ofNat n)
  have e2 : (2 : Int32).toInt = 2 := rfl
  rw [e, e2] at a
  have r := rng32 ((2 : Int32) * Int32.ofNat n)
  have z := nat_of hu
  have b1 : ((2 : Int32) * Int32.ofNat n).toInt = 2 * n := by omega
  have b2 : ¬ ((2 : Int32) * Int32.ofNat n) < 0 := own_nn.mpr (by omega)
  have z2 := nat_of b2
  unfold own_max
  by_cases q : u < ((2 : Int32) * Int32.ofNat n)
  · rw [if_pos q]
    rw [Int32.lt_iff_toInt_lt] at q
    exact ⟨b2, by omega⟩
  · rw [if_neg q]
    rw [Int32.lt_iff_toInt_lt] at q
    exact ⟨hu, by omega⟩
theorem own_lt {n k : Nat} {u : Int32} (hn : n < 2 ^ 31) (hu : ¬ u < 0) (hk : u.toNatClampNeg = k) : Int32.ofNat n < u ↔ n < k := by
  have e : (Int32.ofNat n).toInt = n := Int32.toInt_ofNat_small hn
  have z := nat_of hu
  rw [Int32.lt_iff_toInt_lt]; omega
theorem own_mn_eq {n k : Nat} {u : Int32} (hn : n < 2 ^ 31) (hu : ¬ u < 0) (hk : u.toNatClampNeg = k) (h : n < k) : own_mn (Int32.ofNat n) u = Int32.ofNat n := by
  unfold own_mn
  rw [if_neg]
  intro q
  have q2 := (own_lt hn hu hk).mpr h
  rw [Int32.lt_iff_toInt_lt] at q q2
  omega

def own_e2 (c a re r1 : Int32) : Int32 := if re = 0 then (if c = a then r1 else -1) else -1
def own_exp (c a b re pu r1 r2 : Int32) : Int32 := if pu = 0 then own_e2 c a re r1 else if c = b then r2 else own_e2 c a re r1
theorem own_ix {x y : Int32} {k i : Nat} (hx : ¬ x < 0) (hy : ¬ y < 0) (h1 : x.toNatClampNeg = k) (h2 : y.toNatClampNeg = i) : x = y ↔ k = i :=
  ⟨fun z => by rw [← h1, ← h2, z], fun z => own_inj hx hy (by rw [h1, h2, z])⟩
theorem own_L00 {c a b r1 r2 : Int32} {i k : Nat} (hca : c = a ↔ k = i) (p1 : 0 ≤ r1.toInt) : own_get 1 (if k = i then own_enc 1 r1 else 0) = own_exp c a b 0 0 r1 r2 := by
  by_cases q : k = i
  · rw [if_pos q, own_get_same _ _ p1]; simp [own_exp, own_e2, hca.mpr q]
  · have q' : ¬ c = a := fun z => q (hca.mp z)
    rw [if_neg q, own_get_zero _ (by decide)]; simp [own_exp, own_e2, q']
theorem own_L01 {c a b r1 r2 : Int32} {i j k : Nat} (hca : c = a ↔ k = i) (hcb : c = b ↔ k = j) (p1 : 0 ≤ r1.toInt) (p2 : 0 ≤ r2.toInt) : own_get 1 (if k = j then own_enc 1 r2 else if k = i then own_enc 1 r1 else 0) = own_exp c a b 0 1 r1 r2 := by
  by_cases s : k = j
  · rw [if_pos s, own_get_same _ _ p2]; simp [own_exp, hcb.mpr s]
  · have s' : ¬ c = b := fun z => s (hcb.mp z)
    rw [if_neg s]
    by_cases q : k = i
    · rw [if_pos q, own_get_same _ _ p1]
      have q' := hca.mpr q
      unfold own_exp own_e2
      rw [if_neg (by decide), if_neg s', if_pos rfl, if_pos q']
    · have q' : ¬ c = a := fun z => q (hca.mp z)
      rw [if_neg q, own_get_zero _ (by decide)]; simp [own_exp, own_e2, q', s']
theorem own_L10 {c a b r1 r2 : Int32} {i k n : Nat} (p1 : 0 ≤ r1.toInt) : own_get 2 (if k < n then (if k = i then own_enc 1 r1 else 0) else 0) = own_exp c a b 1 0 r1 r2 := by
  have e : own_exp c a b 1 0 r1 r2 = -1 := by simp [own_exp, own_e2]
  rw [e]
  by_cases q0 : k < n
  · rw [if_pos q0]
    by_cases q : k = i
    · rw [if_pos q]; exact own_get_other _ _ _ p1 (by decide)
    · rw [if_neg q]; exact own_get_zero _ (by decide)
  · rw [if_neg q0]; exact own_get_zero _ (by decide)
theorem own_L11 {c a b r1 r2 : Int32} {i j k n : Nat} (hcb : c = b ↔ k = j) (p1 : 0 ≤ r1.toInt) (p2 : 0 ≤ r2.toInt) : own_get 2 (if k = j then own_enc 2 r2 else if k < n then (if k = i then own_enc 1 r1 else 0) else 0) = own_exp c a b 1 1 r1 r2 := by
  by_cases s : k = j
  · rw [if_pos s, own_get_same _ _ p2]; simp [own_exp, hcb.mpr s]
  · have s' : ¬ c = b := fun z => s (hcb.mp z)
    have e : own_exp c a b 1 1 r1 r2 = own_exp c a b 1 0 r1 r2 := by simp [own_exp, own_e2, s']
    rw [if_neg s, e]; exact own_L10 p1
theorem own_nl_ge (n k : Nat) : k ≤ own_nl n k ∧ n ≤ own_nl n k := by
  unfold own_nl
  by_cases q : n < k
  · rw [if_pos q]; omega
  · rw [if_neg q]; omega

theorem own_pn0 : plainName "com/example/saturation/saturation/WalkMemo" = true := by first | (simp [plainName, overriddenIn]; done) | decide +kernel
theorem own_ef1_R (m : MethodId) (x0 : Addr) : entryFrame m #[(.ref x0)] 1 = mkF m 0 #[.val (.ref x0)] [] := by first | (simp [entryFrame, mkF, argsToLocals, Value.category]; done) | rfl
theorem d1_0 : decode prog_65_method_1_code 0 = .ok (.aload_n 0, 1) := by decide +kernel
theorem d1_1 : decode prog_65_method_1_code 1 = .ok (.invokespecial 1, 3) := by decide +kernel
theorem d1_4 : decode prog_65_method_1_code 4 = .ok (.aload_n 0, 1) := by decide +kernel
theorem d1_5 : decode prog_65_method_1_code 5 = .ok (.iconst 0, 1) := by decide +kernel
theorem d1_6 : decode prog_65_method_1_code 6 = .ok (.newarray .long, 2) := by decide +kernel
theorem d1_8 : decode prog_65_method_1_code 8 = .ok (.putfield 7, 3) := by decide +kernel
theorem d1_11 : decode prog_65_method_1_code 11 = .ok (.return_, 1) := by decide +kernel
theorem own_ef4_II (m : MethodId) (x0 : Int32) (x1 : Int32) : entryFrame m #[(.int x0), (.int x1)] 2 = mkF m 0 #[.val (.int x0), .val (.int x1)] [] := by first | (simp [entryFrame, mkF, argsToLocals, Value.category]; done) | rfl
theorem d4_0 : decode jdk_29_method_65_code 0 = .ok (.iload_n 0, 1) := by decide +kernel
theorem d4_1 : decode jdk_29_method_65_code 1 = .ok (.iload_n 1, 1) := by decide +kernel
theorem d4_2 : decode jdk_29_method_65_code 2 = .ok (.if_icmp .lt 7, 3) := by decide +kernel
theorem d4_9 : decode jdk_29_method_65_code 9 = .ok (.iload_n 1, 1) := by decide +kernel
theorem d4_10 : decode jdk_29_method_65_code 10 = .ok (.ireturn, 1) := by decide +kernel
theorem d4_5 : decode jdk_29_method_65_code 5 = .ok (.iload_n 0, 1) := by decide +kernel
theorem d4_6 : decode jdk_29_method_65_code 6 = .ok (.goto 4, 3) := by decide +kernel
theorem own_ef6_II (m : MethodId) (x0 : Int32) (x1 : Int32) : entryFrame m #[(.int x0), (.int x1)] 2 = mkF m 0 #[.val (.int x0), .val (.int x1)] [] := by first | (simp [entryFrame, mkF, argsToLocals, Value.category]; done) | rfl
theorem d6_0 : decode jdk_29_method_69_code 0 = .ok (.iload_n 0, 1) := by decide +kernel
theorem d6_1 : decode jdk_29_method_69_code 1 = .ok (.iload_n 1, 1) := by decide +kernel
theorem d6_2 : decode jdk_29_method_69_code 2 = .ok (.if_icmp .gt 7, 3) := by decide +kernel
theorem d6_9 : decode jdk_29_method_69_code 9 = .ok (.iload_n 1, 1) := by decide +kernel
theorem d6_10 : decode jdk_29_method_69_code 10 = .ok (.ireturn, 1) := by decide +kernel
theorem d6_5 : decode jdk_29_method_69_code 5 = .ok (.iload_n 0, 1) := by decide +kernel
theorem d6_6 : decode jdk_29_method_69_code 6 = .ok (.goto 4, 3) := by decide +kernel
theorem own_pn1 : plainName "java/util/Arrays" = true := by first | (simp [plainName, overriddenIn]; done) | decide +kernel
theorem own_ef5_RI (m : MethodId) (x0 : Addr) (x1 : Int32) : entryFrame m #[(.ref x0), (.int x1)] 3 = mkF m 0 #[.val (.ref x0), .val (.int x1), .unset] [] := by first | (simp [entryFrame, mkF, argsToLocals, Value.category]; done) | rfl
theorem d5_0 : decode jdk_65_method_124_code 0 = .ok (.iload_n 1, 1) := by decide +kernel
theorem d5_1 : decode jdk_65_method_124_code 1 = .ok (.aload_n 0, 1) := by decide +kernel
theorem d5_2 : decode jdk_65_method_124_code 2 = .ok (.arraylength, 1) := by decide +kernel
theorem d5_3 : decode jdk_65_method_124_code 3 = .ok (.if_icmp .ne 11, 3) := by decide +kernel
theorem d5_14 : decode jdk_65_method_124_code 14 = .ok (.iload_n 1, 1) := by decide +kernel
theorem d5_15 : decode jdk_65_method_124_code 15 = .ok (.newarray .long, 2) := by decide +kernel
theorem d5_17 : decode jdk_65_method_124_code 17 = .ok (.astore_n 2, 1) := by decide +kernel
theorem d5_18 : decode jdk_65_method_124_code 18 = .ok (.aload_n 0, 1) := by decide +kernel
theorem d5_19 : decode jdk_65_method_124_code 19 = .ok (.iconst 0, 1) := by decide +kernel
theorem d5_20 : decode jdk_65_method_124_code 20 = .ok (.aload_n 2, 1) := by decide +kernel
theorem d5_21 : decode jdk_65_method_124_code 21 = .ok (.iconst 0, 1) := by decide +kernel
theorem d5_22 : decode jdk_65_method_124_code 22 = .ok (.aload_n 0, 1) := by decide +kernel
theorem d5_23 : decode jdk_65_method_124_code 23 = .ok (.arraylength, 1) := by decide +kernel
theorem d5_24 : decode jdk_65_method_124_code 24 = .ok (.iload_n 1, 1) := by decide +kernel
theorem d5_25 : decode jdk_65_method_124_code 25 = .ok (.invokestatic 304, 3) := by decide +kernel
theorem own_pd0 : parseMethodDescriptor "(II)I" = some ⟨[.int, .int], some .int⟩ := by decide +kernel
theorem d5_28 : decode jdk_65_method_124_code 28 = .ok (.invokestatic 150, 3) := by decide +kernel
theorem d5_31 : decode jdk_65_method_124_code 31 = .ok (.aload_n 2, 1) := by decide +kernel
theorem d5_32 : decode jdk_65_method_124_code 32 = .ok (.areturn, 1) := by decide +kernel
theorem own_ef3_RI (m : MethodId) (x0 : Addr) (x1 : Int32) : entryFrame m #[(.ref x0), (.int x1)] 2 = mkF m 0 #[.val (.ref x0), .val (.int x1)] [] := by first | (simp [entryFrame, mkF, argsToLocals, Value.category]; done) | rfl
theorem d3_0 : decode prog_65_method_2_code 0 = .ok (.aload_n 0, 1) := by decide +kernel
theorem d3_1 : decode prog_65_method_2_code 1 = .ok (.getfield 7, 3) := by decide +kernel
theorem d3_4 : decode prog_65_method_2_code 4 = .ok (.arraylength, 1) := by decide +kernel
theorem d3_5 : decode prog_65_method_2_code 5 = .ok (.iload_n 1, 1) := by decide +kernel
theorem d3_6 : decode prog_65_method_2_code 6 = .ok (.if_icmp .ge 25, 3) := by decide +kernel
theorem d3_9 : decode prog_65_method_2_code 9 = .ok (.aload_n 0, 1) := by decide +kernel
theorem d3_10 : decode prog_65_method_2_code 10 = .ok (.aload_n 0, 1) := by decide +kernel
theorem d3_11 : decode prog_65_method_2_code 11 = .ok (.getfield 7, 3) := by decide +kernel
theorem d3_14 : decode prog_65_method_2_code 14 = .ok (.iload_n 1, 1) := by decide +kernel
theorem d3_15 : decode prog_65_method_2_code 15 = .ok (.iconst 2, 1) := by decide +kernel
theorem d3_16 : decode prog_65_method_2_code 16 = .ok (.aload_n 0, 1) := by decide +kernel
theorem d3_17 : decode prog_65_method_2_code 17 = .ok (.getfield 7, 3) := by decide +kernel
theorem d3_20 : decode prog_65_method_2_code 20 = .ok (.arraylength, 1) := by decide +kernel
theorem d3_21 : decode prog_65_method_2_code 21 = .ok (.imul, 1) := by decide +kernel
theorem d3_22 : decode prog_65_method_2_code 22 = .ok (.invokestatic 13, 3) := by decide +kernel
theorem d3_25 : decode prog_65_method_2_code 25 = .ok (.invokestatic 19, 3) := by decide +kernel
theorem own_pd1 : parseMethodDescriptor "([JI)[J" = some ⟨[(.array .long), .int], some (.array .long)⟩ := by decide +kernel
theorem d3_28 : decode prog_65_method_2_code 28 = .ok (.putfield 7, 3) := by decide +kernel
theorem d3_31 : decode prog_65_method_2_code 31 = .ok (.aload_n 0, 1) := by decide +kernel
theorem d3_32 : decode prog_65_method_2_code 32 = .ok (.dup, 1) := by decide +kernel
theorem d3_33 : decode prog_65_method_2_code 33 = .ok (.getfield 25, 3) := by decide +kernel
theorem d3_36 : decode prog_65_method_2_code 36 = .ok (.iconst 1, 1) := by decide +kernel
theorem d3_37 : decode prog_65_method_2_code 37 = .ok (.iadd, 1) := by decide +kernel
theorem d3_38 : decode prog_65_method_2_code 38 = .ok (.putfield 25, 3) := by decide +kernel
theorem d3_41 : decode prog_65_method_2_code 41 = .ok (.aload_n 0, 1) := by decide +kernel
theorem d3_42 : decode prog_65_method_2_code 42 = .ok (.getfield 25, 3) := by decide +kernel
theorem d3_45 : decode prog_65_method_2_code 45 = .ok (.ifCond .ne 16, 3) := by decide +kernel
theorem d3_61 : decode prog_65_method_2_code 61 = .ok (.return_, 1) := by decide +kernel
theorem own_ef7_RII (m : MethodId) (x0 : Addr) (x1 : Int32) (x2 : Int32) : entryFrame m #[(.ref x0), (.int x1), (.int x2)] 3 = mkF m 0 #[.val (.ref x0), .val (.int x1), .val (.int x2)] [] := by first | (simp [entryFrame, mkF, argsToLocals, Value.category]; done) | rfl
theorem d7_0 : decode prog_65_method_4_code 0 = .ok (.aload_n 0, 1) := by decide +kernel
theorem d7_1 : decode prog_65_method_4_code 1 = .ok (.getfield 7, 3) := by decide +kernel
theorem d7_4 : decode prog_65_method_4_code 4 = .ok (.iload_n 1, 1) := by decide +kernel
theorem d7_5 : decode prog_65_method_4_code 5 = .ok (.aload_n 0, 1) := by decide +kernel
theorem d7_6 : decode prog_65_method_4_code 6 = .ok (.getfield 25, 3) := by decide +kernel
theorem d7_9 : decode prog_65_method_4_code 9 = .ok (.i2l, 1) := by decide +kernel
theorem d7_10 : decode prog_65_method_4_code 10 = .ok (.bipush 32, 2) := by decide +kernel
theorem d7_12 : decode prog_65_method_4_code 12 = .ok (.lshl, 1) := by decide +kernel
theorem d7_13 : decode prog_65_method_4_code 13 = .ok (.iload_n 2, 1) := by decide +kernel
theorem d7_14 : decode prog_65_method_4_code 14 = .ok (.i2l, 1) := by decide +kernel
theorem d7_15 : decode prog_65_method_4_code 15 = .ok (.lor, 1) := by decide +kernel
theorem d7_16 : decode prog_65_method_4_code 16 = .ok (.lastore, 1) := by decide +kernel
theorem d7_17 : decode prog_65_method_4_code 17 = .ok (.return_, 1) := by decide +kernel
theorem own_ef8_RI (m : MethodId) (x0 : Addr) (x1 : Int32) : entryFrame m #[(.ref x0), (.int x1)] 4 = mkF m 0 #[.val (.ref x0), .val (.int x1), .unset, .unset] [] := by first | (simp [entryFrame, mkF, argsToLocals, Value.category]; done) | rfl
theorem d8_0 : decode prog_65_method_3_code 0 = .ok (.aload_n 0, 1) := by decide +kernel
theorem d8_1 : decode prog_65_method_3_code 1 = .ok (.getfield 7, 3) := by decide +kernel
theorem d8_4 : decode prog_65_method_3_code 4 = .ok (.iload_n 1, 1) := by decide +kernel
theorem d8_5 : decode prog_65_method_3_code 5 = .ok (.laload, 1) := by decide +kernel
theorem d8_6 : decode prog_65_method_3_code 6 = .ok (.lstore_n 2, 1) := by decide +kernel
theorem d8_7 : decode prog_65_method_3_code 7 = .ok (.lload_n 2, 1) := by decide +kernel
theorem d8_8 : decode prog_65_method_3_code 8 = .ok (.bipush 32, 2) := by decide +kernel
theorem d8_10 : decode prog_65_method_3_code 10 = .ok (.lushr, 1) := by decide +kernel
theorem d8_11 : decode prog_65_method_3_code 11 = .ok (.l2i, 1) := by decide +kernel
theorem d8_12 : decode prog_65_method_3_code 12 = .ok (.aload_n 0, 1) := by decide +kernel
theorem d8_13 : decode prog_65_method_3_code 13 = .ok (.getfield 25, 3) := by decide +kernel
theorem d8_16 : decode prog_65_method_3_code 16 = .ok (.if_icmp .ne 8, 3) := by decide +kernel
theorem d8_19 : decode prog_65_method_3_code 19 = .ok (.lload_n 2, 1) := by decide +kernel
theorem d8_20 : decode prog_65_method_3_code 20 = .ok (.l2i, 1) := by decide +kernel
theorem d8_21 : decode prog_65_method_3_code 21 = .ok (.goto 4, 3) := by decide +kernel
theorem d8_25 : decode prog_65_method_3_code 25 = .ok (.ireturn, 1) := by decide +kernel
theorem d8_24 : decode prog_65_method_3_code 24 = .ok (.iconst (-1), 1) := by decide +kernel
theorem own_pn2 : plainName "com/example/saturation/saturation/WalkMemoGetPinLaw" = true := by first | (simp [plainName, overriddenIn]; done) | decide +kernel
theorem own_ef9_IIIIIII (m : MethodId) (x0 : Int32) (x1 : Int32) (x2 : Int32) (x3 : Int32) (x4 : Int32) (x5 : Int32) (x6 : Int32) : entryFrame m #[(.int x0), (.int x1), (.int x2), (.int x3), (.int x4), (.int x5), (.int x6)] 7 = mkF m 0 #[.val (.int x0), .val (.int x1), .val (.int x2), .val (.int x3), .val (.int x4), .val (.int x5), .val (.int x6)] [] := by first | (simp [entryFrame, mkF, argsToLocals, Value.category]; done) | rfl
theorem d9_0 : decode method_2_code 0 = .ok (.iload 4, 2) := by decide +kernel
theorem d9_2 : decode method_2_code 2 = .ok (.ifCond .eq 11, 3) := by decide +kernel
theorem d9_13 : decode method_2_code 13 = .ok (.iload_n 3, 1) := by decide +kernel
theorem d9_14 : decode method_2_code 14 = .ok (.ifCond .ne 11, 3) := by decide +kernel
theorem d9_17 : decode method_2_code 17 = .ok (.iload_n 0, 1) := by decide +kernel
theorem d9_18 : decode method_2_code 18 = .ok (.iload_n 1, 1) := by decide +kernel
theorem d9_19 : decode method_2_code 19 = .ok (.if_icmp .ne 6, 3) := by decide +kernel
theorem d9_22 : decode method_2_code 22 = .ok (.iload 5, 2) := by decide +kernel
theorem d9_24 : decode method_2_code 24 = .ok (.ireturn, 1) := by decide +kernel
theorem d9_25 : decode method_2_code 25 = .ok (.iconst (-1), 1) := by decide +kernel
theorem d9_26 : decode method_2_code 26 = .ok (.ireturn, 1) := by decide +kernel
theorem d9_5 : decode method_2_code 5 = .ok (.iload_n 0, 1) := by decide +kernel
theorem d9_6 : decode method_2_code 6 = .ok (.iload_n 2, 1) := by decide +kernel
theorem d9_7 : decode method_2_code 7 = .ok (.if_icmp .ne 6, 3) := by decide +kernel
theorem d9_10 : decode method_2_code 10 = .ok (.iload 6, 2) := by decide +kernel
theorem d9_12 : decode method_2_code 12 = .ok (.ireturn, 1) := by decide +kernel
theorem own_ef0_IIIIII (m : MethodId) (x0 : Int32) (x1 : Int32) (x2 : Int32) (x3 : Int32) (x4 : Int32) (x5 : Int32) : entryFrame m #[(.int x0), (.int x1), (.int x2), (.int x3), (.int x4), (.int x5)] maxLocals = mkF m 0 #[.val (.int x0), .val (.int x1), .val (.int x2), .val (.int x3), .val (.int x4), .val (.int x5), .unset, .unset, .unset, .unset, .unset, .unset, .unset, .unset, .unset, .unset, .unset, .unset, .unset] [] := by first | (simp [entryFrame, mkF, argsToLocals, Value.category, maxLocals]; done) | rfl
theorem own_pd2 : parseMethodDescriptor "()V" = some ⟨[], none⟩ := by decide +kernel
theorem own_pd3 : parseMethodDescriptor "(I)V" = some ⟨[.int], none⟩ := by decide +kernel
theorem own_pd4 : parseMethodDescriptor "(II)V" = some ⟨[.int, .int], none⟩ := by decide +kernel
theorem own_pd5 : parseMethodDescriptor "(I)I" = some ⟨[.int], some .int⟩ := by decide +kernel
theorem own_pd6 : parseMethodDescriptor "(IIIZZII)I" = some ⟨[.int, .int, .int, .boolean, .boolean, .int, .int], some .int⟩ := by decide +kernel
def Q_rm_init (Z : State) (ao : Addr) (h0 : Heap) (n0 : Nat) (v : Option Value) (h : Heap) (L : List Loc) : Prop := v = none ∧ Fr n0 L ∧ n0 ≤ h.size ∧ own_M Z h n0 ao 0 0 (fun _ => 0)
set_option maxRecDepth 65536 in
set_option maxHeartbeats 40000000 in
theorem rm_init (l : Launch) (Z : State) (a0 : Array Value) (hw : ∀ d ∈ tables_1, d.before a0 Z = true) (ws : List Jvm.Cond) (ao : Addr) (h0 : Heap) (n0 : Nat) (Z0 : n0 ≤ h0.size) (E_ao : Exa Z h0 ao "com/example/saturation/saturation/WalkMemo") (F_stamp_ao : Fld Z h0 ao "com/example/saturation/saturation/WalkMemo" "stamp" "I" (.int (0 : Int32))) (F_entries_ao : Fld Z h0 ao "com/example/saturation/saturation/WalkMemo" "entries" "[J" .null) (g_ao : n0 ≤ ao) :
    MetFree l (⟨"com/example/saturation/saturation/WalkMemo", "<init>", "()V"⟩ : MethodName) (head1 (Jvm.Cond.code (⟨"com/example/saturation/saturation/WalkMemo", "<init>", "()V"⟩ : MethodName) prog_65_method_1_code 1 none :: ws) ({ frames := 1, cells := 1, slots := 0, locals := 12 } : Room)) (fun a U => a = #[(.ref ao)] ∧ Z.Warmed39 U.vm ∧ U.heap = h0) (fun _ _ _ _ _ => True) (fun _ U o U' => ∃ v L, o = .returned v ∧ Q_rm_init Z ao h0 n0 v U'.heap L ∧ FrameEnd U o U' L ({ frames := 1, cells := 1, slots := 0, locals := 12 } : Room).cells ({ frames := 1, cells := 1, slots := 0, locals := 12 } : Room).slots) := by
  refine MetFree.of_bodySF (plainFor_of_name own_pn0) hisR ?_
  intro p e s m args below meth c s₁ Bd hml0 hP hK
  obtain ⟨rfl, hZ, hh⟩ := hP
  have hx := Bd.exec
  have hby := Bd.bytes
  have hml : c.maxLocals = 1 := hml0
  have hown : s.vm.findClass "com/example/saturation/saturation/WalkMemo" = some m.cls := findClass_of_methodNamed Bd.named
  have hnm := (name_of_methodNamed Bd.named Bd.method).1
  have X0 : Stand p l e ({ frames := 1, cells := 1, slots := 0, locals := 12 } : Room) s m #[(.ref ao)] below meth c s₁ [] 0 0 := Stand.of_body Bd
  have e0 : s₁.heap = h0 := by rw [← hh, Bd.state]; rfl
  have N0 := Fr.nil n0
  have st0 : own_Go p e below (s₁.setTop (mkF m 0 #[.val (.ref ao)] [])) (s₁.setTop (entryFrame m #[(.ref ao)] 1)) := fun t k => castTop (own_ef1_R m ao) k
  have st1 : own_Go p e below (s₁.setTop (mkF m 1 #[.val (.ref ao)] [(.ref ao)])) (s₁.setTop (entryFrame m #[(.ref ao)] 1)) := fun t kt => st0 t (by
    show Steps p.tables e below (s₁.setTop (mkF m 0 #[.val (.ref ao)] [])) _
    refine XS.aloadN X0.here hx rfl (hb hby d1_0) rfl rfl ?_
    show Steps p.tables e below (s₁.setTop (mkF m 1 #[.val (.ref ao)] [(.ref ao)])) _
    exact kt)
  obtain ⟨T2, X2, e2, ls2⟩ := initO X0 hx hZ hown (hw _ (List.mem_of_getElem? (i := 7) rfl)) (hw _ (List.mem_of_getElem? (i := 8) rfl)) (hw _ (List.mem_of_getElem? (i := 9) rfl)) e0 (g := (mkF m 1 #[.val (.ref ao)] [(.ref ao)])) rfl (by rw [hml]; rfl) rfl (hb hby d1_1) (by decide) (W := 0) (by show 2 * 0 + _ ≤ _; exact Nat.le_of_eq rfl) (by decide)
  have st3 : own_Go p e below (T2.setTop (mkF m 4 #[.val (.ref ao)] [])) (s₁.setTop (entryFrame m #[(.ref ao)] 1)) := fun t kt => st1 t (ls2 t kt)
  have st4 : own_Go p e below (T2.setTop (mkF m 6 #[.val (.ref ao)] [(.int (0 : Int32)), (.ref ao)])) (s₁.setTop (entryFrame m #[(.ref ao)] 1)) := fun t kt => st3 t (by
    show Steps p.tables e below (T2.setTop (mkF m 4 #[.val (.ref ao)] [])) _
    refine XS.aloadN X2.here hx rfl (hb hby d1_4) rfl rfl ?_
    show Steps p.tables e below (T2.setTop (mkF m 5 #[.val (.ref ao)] [(.ref ao)])) _
    refine XS.iconst X2.here hx rfl (hb hby d1_5) ?_
    show Steps p.tables e below (T2.setTop (mkF m 6 #[.val (.ref ao)] [(.int (0 : Int32)), (.ref ao)])) _
    exact kt)
  obtain ⟨T5, h5, c5, X5, e5, E5, A5, ls5⟩ := newP X2 hx hZ (hw _ (List.mem_of_getElem? (i := 10) rfl)) e2 (g := (mkF m 6 #[.val (.ref ao)] [(.int (0 : Int32)), (.ref ao)])) rfl (hb hby d1_6) rfl (by decide) (cap := 0) (by decide) (by decide) (by decide) (by decide)
  obtain ⟨bn, g5⟩ : ∃ z, z = h0.size := ⟨_, rfl⟩
  rw [← g5] at A5 ls5
  have ne_ao_bn : ao ≠ bn := Nat.ne_of_lt (Nat.lt_of_lt_of_le E_ao.lt (Nat.le_of_eq g5.symm))
  have g_bn : n0 ≤ bn := Nat.le_trans Z0 (Nat.le_of_eq g5.symm)
  have f6 := E_ao.ext E5
  have f7 := F_stamp_ao.ext E5
  have f8 := F_entries_ao.ext E5
  have z9 := Nat.le_trans Z0 E5.1
  have f10 : own_Av Z h5 bn .long 0 (fun _ => (.long (0 : Int64))) := own_Av.new A5 (by decide) (by decide)
  have st11 : own_Go p e below (T5.setTop (mkF m 8 #[.val (.ref ao)] [(.ref bn), (.ref ao)])) (s₁.setTop (entryFrame m #[(.ref ao)] 1)) := fun t kt => st4 t (ls5 t kt)
  obtain ⟨T12, h12, X12, e12, W12, ls12⟩ := putF X5 hx hZ hown (host := "") (Or.inl (hw _ (List.mem_of_getElem? (i := 11) rfl))) Via.refl e5 f8 f6 (Or.inl (hw _ (List.mem_of_getElem? (i := 12) rfl))) (hw _ (List.mem_of_getElem? (i := 2) rfl)) (ty := (.array .long)) (by decide) rfl rfl (g := (mkF m 8 #[.val (.ref ao)] [(.ref bn), (.ref ao)])) rfl rfl (hb hby d1_8)
  have N12 := Fr.snoc X12 N0 g_ao
  have f13 := f6.wr W12
  have f14 := f7.other W12 (Or.inr (slot_ne (Or.inl (hw _ (List.mem_of_getElem? (i := 34) rfl))) (Or.inl (hw _ (List.mem_of_getElem? (i := 12) rfl))) (by decide) (t := .int) (t' := (.array .long)) (by decide) (by decide)))
  have f15 := f8.same W12
  have f16 := f10.other W12 (Ne.symm ne_ao_bn)
  have z17 := Nat.le_trans z9 (Keep.of_wr W12).1
  have st18 : own_Go p e below (T12.setTop (mkF m 11 #[.val (.ref ao)] [])) (s₁.setTop (entryFrame m #[(.ref ao)] 1)) := fun t kt => st11 t (ls12 t kt)
  obtain ⟨fs, hr, hrun, hended, hW, hsame⟩ := X12.leave (v := none) (fun _ => rfl)
  refine ⟨_, _, st18 _ ?_, hrun, hended, _, _, rfl, ?_, ⟨_, rfl⟩, hW, hsame.mono (by decide) (by decide)⟩
  · exact X12.returnOut hx Bd.returns (hb hby d1_11) hr
  · show Q_rm_init Z ao h0 n0 _ T12.heap _
    rw [e12]
    exact ⟨rfl, N12, z17, f13, g_ao, f14, bn, g_bn, ne_ao_bn, f15, f16⟩
def Q_rm_max (Z : State) (u1 : Int32) (u2 : Int32) (h0 : Heap) (n0 : Nat) (v : Option Value) (h : Heap) (L : List Loc) : Prop := v = some (.int (own_max u1 u2)) ∧ Fr n0 L ∧ h = h0
set_option maxRecDepth 65536 in
set_option maxHeartbeats 40000000 in
theorem rm_max (l : Launch) (Z : State) (a0 : Array Value) (hw : ∀ d ∈ tables_1, d.before a0 Z = true) (ws : List Jvm.Cond) (u1 : Int32) (u2 : Int32) (h0 : Heap) (n0 : Nat) (Z0 : n0 ≤ h0.size) :
    MetFree l (⟨"java/lang/Math", "max", "(II)I"⟩ : MethodName) (head1 (Jvm.Cond.code (⟨"java/lang/Math", "max", "(II)I"⟩ : MethodName) jdk_29_method_65_code 2 (some .int) :: ws) ({ frames := 0, cells := 0, slots := 0, locals := 0 } : Room)) (fun a U => a = #[(.int u1), (.int u2)] ∧ Z.Warmed39 U.vm ∧ U.heap = h0) (fun _ _ _ _ _ => True) (fun _ U o U' => ∃ v L, o = .returned v ∧ Q_rm_max Z u1 u2 h0 n0 v U'.heap L ∧ FrameEnd U o U' L ({ frames := 0, cells := 0, slots := 0, locals := 0 } : Room).cells ({ frames := 0, cells := 0, slots := 0, locals := 0 } : Room).slots) := by
  refine MetFree.of_bodySF (Jvm.Free.JP.mathPlain rfl (by decide +kernel)) hisR ?_
  intro p e s m args below meth c s₁ Bd hml0 hP hK
  obtain ⟨rfl, hZ, hh⟩ := hP
  have hx := Bd.exec
  have hby := Bd.bytes
  have hml : c.maxLocals = 2 := hml0
  have hown : s.vm.findClass "java/lang/Math" = some m.cls := findClass_of_methodNamed Bd.named
  have hnm := (name_of_methodNamed Bd.named Bd.method).1
  have X0 : Stand p l e ({ frames := 0, cells := 0, slots := 0, locals := 0 } : Room) s m #[(.int u1), (.int u2)] below meth c s₁ [] 0 0 := Stand.of_body Bd
  have e0 : s₁.heap = h0 := by rw [← hh, Bd.state]; rfl
  have N0 := Fr.nil n0
  have st0 : own_Go p e below (s₁.setTop (mkF m 0 #[.val (.int u1), .val (.int u2)] [])) (s₁.setTop (entryFrame m #[(.int u1), (.int u2)] 2)) := fun t k => castTop (own_ef4_II m u1 u2) k
  have st1 : own_Go p e below (s₁.setTop (mkF m 2 #[.val (.int u1), .val (.int u2)] [(.int u2), (.int u1)])) (s₁.setTop (entryFrame m #[(.int u1), (.int u2)] 2)) := fun t kt => st0 t (by
    show Steps p.tables e below (s₁.setTop (mkF m 0 #[.val (.int u1), .val (.int u2)] [])) _
    refine XS.iloadN X0.here hx rfl (hb hby d4_0) rfl ?_
    show Steps p.tables e below (s₁.setTop (mkF m 1 #[.val (.int u1), .val (.int u2)] [(.int u1)])) _
    refine XS.iloadN X0.here hx rfl (hb hby d4_1) rfl ?_
    show Steps p.tables e below (s₁.setTop (mkF m 2 #[.val (.int u1), .val (.int u2)] [(.int u2), (.int u1)])) _
    exact kt)
  by_cases q1 : u1 < u2
  · have st2 : own_Go p e below (s₁.setTop (mkF m 10 #[.val (.int u1), .val (.int u2)] [(.int u2)])) (s₁.setTop (entryFrame m #[(.int u1), (.int u2)] 2)) := fun t kt => st1 t (by
      show Steps p.tables e below (s₁.setTop (mkF m 2 #[.val (.int u1), .val (.int u2)] [(.int u2), (.int u1)])) _
      refine XS.icmpYes X0.here hx rfl (pc0 := 2) (pc' := 9) rfl (hb hby d4_2) rfl (tlt q1).1 (by decide) (by decide) ?_
      show Steps p.tables e below (s₁.setTop (mkF m 9 #[.val (.int u1), .val (.int u2)] [])) _
      refine XS.iloadN X0.here hx rfl (hb hby d4_9) rfl ?_
      show Steps p.tables e below (s₁.setTop (mkF m 10 #[.val (.int u1), .val (.int u2)] [(.int u2)])) _
      exact kt)
    obtain ⟨fs, hr, hrun, hended, hW, hsame⟩ := X0.leave (v := (some (.int u2))) (fun h => by rw [Bd.returns] at h; cases h)
    refine ⟨_, _, st2 _ ?_, hrun, hended, _, _, rfl, ?_, ⟨_, rfl⟩, hW, hsame.mono (by decide) (by decide)⟩
    · exact retOut X0 hx Bd.returns rfl (Or.inl ⟨rfl, Or.inl rfl, _, rfl⟩) (hb hby d4_10) hr
    · show Q_rm_max Z u1 u2 h0 n0 _ s₁.heap _
      rw [e0]
      exact ⟨by simp [own_max, q1], N0, rfl⟩
  · have st3 : own_Go p e below (s₁.setTop (mkF m 10 #[.val (.int u1), .val (.int u2)] [(.int u1)])) (s₁.setTop (entryFrame m #[(.int u1), (.int u2)] 2)) := fun t kt => st1 t (by
      show Steps p.tables e below (s₁.setTop (mkF m 2 #[.val (.int u1), .val (.int u2)] [(.int u2), (.int u1)])) _
      refine XS.icmpNo X0.here hx rfl (hb hby d4_2) rfl (flt q1).1 ?_
      show Steps p.tables e below (s₁.setTop (mkF m 5 #[.val (.int u1), .val (.int u2)] [])) _
      refine XS.iloadN X0.here hx rfl (hb hby d4_5) rfl ?_
      show Steps p.tables e below (s₁.setTop (mkF m 6 #[.val (.int u1), .val (.int u2)] [(.int u1)])) _
      refine XS.goto X0.here hx rfl (pc0 := 6) (pc' := 10) rfl (hb hby d4_6) (by decide) (by decide) ?_
      show Steps p.tables e below (s₁.setTop (mkF m 10 #[.val (.int u1), .val (.int u2)] [(.int u1)])) _
      exact kt)
    obtain ⟨fs, hr, hrun, hended, hW, hsame⟩ := X0.leave (v := (some (.int u1))) (fun h => by rw [Bd.returns] at h; cases h)
    refine ⟨_, _, st3 _ ?_, hrun, hended, _, _, rfl, ?_, ⟨_, rfl⟩, hW, hsame.mono (by decide) (by decide)⟩
    · exact retOut X0 hx Bd.returns rfl (Or.inl ⟨rfl, Or.inl rfl, _, rfl⟩) (hb hby d4_10) hr
    · show Q_rm_max Z u1 u2 h0 n0 _ s₁.heap _
      rw [e0]
      exact ⟨by simp [own_max, q1], N0, rfl⟩
def Q_rm_min (Z : State) (u1 : Int32) (u2 : Int32) (h0 : Heap) (n0 : Nat) (v : Option Value) (h : Heap) (L : List Loc) : Prop := v = some (.int (own_mn u1 u2)) ∧ Fr n0 L ∧ h = h0
set_option maxRecDepth 65536 in
set_option maxHeartbeats 40000000 in
theorem rm_min (l : Launch) (Z : State) (a0 : Array Value) (hw : ∀ d ∈ tables_1, d.before a0 Z = true) (ws : List Jvm.Cond) (u1 : Int32) (u2 : Int32) (h0 : Heap) (n0 : Nat) (Z0 : n0 ≤ h0.size) :
    MetFree l (⟨"java/lang/Math", "min", "(II)I"⟩ : MethodName) (head1 (Jvm.Cond.code (⟨"java/lang/Math", "min", "(II)I"⟩ : MethodName) jdk_29_method_69_code 2 (some .int) :: ws) ({ frames := 0, cells := 0, slots := 0, locals := 0 } : Room)) (fun a U => a = #[(.int u1), (.int u2)] ∧ Z.Warmed39 U.vm ∧ U.heap = h0) (fun _ _ _ _ _ => True) (fun _ U o U' => ∃ v L, o = .returned v ∧ Q_rm_min Z u1 u2 h0 n0 v U'.heap L ∧ FrameEnd U o U' L ({ frames := 0, cells := 0, slots := 0, locals := 0 } : Room).cells ({ frames := 0, cells := 0, slots := 0, locals := 0 } : Room).slots) := by
  refine MetFree.of_bodySF (Jvm.Free.JP.mathPlain rfl (by decide +kernel)) hisR ?_
  intro p e s m args below meth c s₁ Bd hml0 hP hK
  obtain ⟨rfl, hZ, hh⟩ := hP
  have hx := Bd.exec
  have hby := Bd.bytes
  have hml : c.maxLocals = 2 := hml0
  have hown : s.vm.findClass "java/lang/Math" = some m.cls := findClass_of_methodNamed Bd.named
  have hnm := (name_of_methodNamed Bd.named Bd.method).1
  have X0 : Stand p l e ({ frames := 0, cells := 0, slots := 0, locals := 0 } : Room) s m #[(.int u1), (.int u2)] below meth c s₁ [] 0 0 := Stand.of_body Bd
  have e0 : s₁.heap = h0 := by rw [← hh, Bd.state]; rfl
  have N0 := Fr.nil n0
  have st0 : own_Go p e below (s₁.setTop (mkF m 0 #[.val (.int u1), .val (.int u2)] [])) (s₁.setTop (entryFrame m #[(.int u1), (.int u2)] 2)) := fun t k => castTop (own_ef6_II m u1 u2) k
  have st1 : own_Go p e below (s₁.setTop (mkF m 2 #[.val (.int u1), .val (.int u2)] [(.int u2), (.int u1)])) (s₁.setTop (entryFrame m #[(.int u1), (.int u2)] 2)) := fun t kt => st0 t (by
    show Steps p.tables e below (s₁.setTop (mkF m 0 #[.val (.int u1), .val (.int u2)] [])) _
    refine XS.iloadN X0.here hx rfl (hb hby d6_0) rfl ?_
    show Steps p.tables e below (s₁.setTop (mkF m 1 #[.val (.int u1), .val (.int u2)] [(.int u1)])) _
    refine XS.iloadN X0.here hx rfl (hb hby d6_1) rfl ?_
    show Steps p.tables e below (s₁.setTop (mkF m 2 #[.val (.int u1), .val (.int u2)] [(.int u2), (.int u1)])) _
    exact kt)
  by_cases q1 : u2 < u1
  · have st2 : own_Go p e below (s₁.setTop (mkF m 10 #[.val (.int u1), .val (.int u2)] [(.int u2)])) (s₁.setTop (entryFrame m #[(.int u1), (.int u2)] 2)) := fun t kt => st1 t (by
      show Steps p.tables e below (s₁.setTop (mkF m 2 #[.val (.int u1), .val (.int u2)] [(.int u2), (.int u1)])) _
      refine XS.icmpYes X0.here hx rfl (pc0 := 2) (pc' := 9) rfl (hb hby d6_2) rfl (tlt q1).2.2.1 (by decide) (by decide) ?_
      show Steps p.tables e below (s₁.setTop (mkF m 9 #[.val (.int u1), .val (.int u2)] [])) _
      refine XS.iloadN X0.here hx rfl (hb hby d6_9) rfl ?_
      show Steps p.tables e below (s₁.setTop (mkF m 10 #[.val (.int u1), .val (.int u2)] [(.int u2)])) _
      exact kt)
    obtain ⟨fs, hr, hrun, hended, hW, hsame⟩ := X0.leave (v := (some (.int u2))) (fun h => by rw [Bd.returns] at h; cases h)
    refine ⟨_, _, st2 _ ?_, hrun, hended, _, _, rfl, ?_, ⟨_, rfl⟩, hW, hsame.mono (by decide) (by decide)⟩
    · exact retOut X0 hx Bd.returns rfl (Or.inl ⟨rfl, Or.inl rfl, _, rfl⟩) (hb hby d6_10) hr
    · show Q_rm_min Z u1 u2 h0 n0 _ s₁.heap _
      rw [e0]
      exact ⟨by simp [own_mn, q1], N0, rfl⟩
  · have st3 : own_Go p e below (s₁.setTop (mkF m 10 #[.val (.int u1), .val (.int u2)] [(.int u1)])) (s₁.setTop (entryFrame m #[(.int u1), (.int u2)] 2)) := fun t kt => st1 t (by
      show Steps p.tables e below (s₁.setTop (mkF m 2 #[.val (.int u1), .val (.int u2)] [(.int u2), (.int u1)])) _
      refine XS.icmpNo X0.here hx rfl (hb hby d6_2) rfl (flt q1).2.2.1 ?_
      show Steps p.tables e below (s₁.setTop (mkF m 5 #[.val (.int u1), .val (.int u2)] [])) _
      refine XS.iloadN X0.here hx rfl (hb hby d6_5) rfl ?_
      show Steps p.tables e below (s₁.setTop (mkF m 6 #[.val (.int u1), .val (.int u2)] [(.int u1)])) _
      refine XS.goto X0.here hx rfl (pc0 := 6) (pc' := 10) rfl (hb hby d6_6) (by decide) (by decide) ?_
      show Steps p.tables e below (s₁.setTop (mkF m 10 #[.val (.int u1), .val (.int u2)] [(.int u1)])) _
      exact kt)
    obtain ⟨fs, hr, hrun, hended, hW, hsame⟩ := X0.leave (v := (some (.int u1))) (fun h => by rw [Bd.returns] at h; cases h)
    refine ⟨_, _, st3 _ ?_, hrun, hended, _, _, rfl, ?_, ⟨_, rfl⟩, hW, hsame.mono (by decide) (by decide)⟩
    · exact retOut X0 hx Bd.returns rfl (Or.inl ⟨rfl, Or.inl rfl, _, rfl⟩) (hb hby d6_10) hr
    · show Q_rm_min Z u1 u2 h0 n0 _ s₁.heap _
      rw [e0]
      exact ⟨by simp [own_mn, q1], N0, rfl⟩
def Q_rm_copy (Z : State) (asr : Addr) (u : Int32) (n : Nat) (f : Nat → Int64) (k : Nat) (h0 : Heap) (n0 : Nat) (v : Option Value) (h : Heap) (L : List Loc) : Prop := ∃ b, v = some (.ref b) ∧ Fr n0 L ∧ Keep h0 h [] ∧ n0 ≤ b ∧ h0.size ≤ b ∧ own_Av Z h b .long k (fun q => .long (if q < n then f q else 0))
set_option maxRecDepth 65536 in
set_option maxHeartbeats 40000000 in
theorem rm_copy (l : Launch) (Z : State) (a0 : Array Value) (hw : ∀ d ∈ tables_1, d.before a0 Z = true) (ws : List Jvm.Cond) (asr : Addr) (u : Int32) (n : Nat) (f : Nat → Int64) (k : Nat) (h0 : Heap) (n0 : Nat) (Z0 : n0 ≤ h0.size) (Asr : own_Av Z h0 asr .long n (fun q => .long (f q))) (hu : ¬ u < 0) (hk : u.toNatClampNeg = k) (hkn : n < k) (hk16 : k ≤ 16) :
    MetFree l (⟨"java/util/Arrays", "copyOf", "([JI)[J"⟩ : MethodName) (head1 (Jvm.Cond.code (⟨"java/util/Arrays", "copyOf", "([JI)[J"⟩ : MethodName) jdk_65_method_124_code 3 (some (.array .long)) :: ws) ({ frames := 1, cells := 1, slots := 16, locals := 18 } : Room)) (fun a U => a = #[(.ref asr), (.int u)] ∧ Z.Warmed39 U.vm ∧ U.heap = h0) (fun _ _ _ _ _ => True) (fun _ U o U' => ∃ v L, o = .returned v ∧ Q_rm_copy Z asr u n f k h0 n0 v U'.heap L ∧ FrameEnd U o U' L ({ frames := 1, cells := 1, slots := 16, locals := 18 } : Room).cells ({ frames := 1, cells := 1, slots := 16, locals := 18 } : Room).slots) := by
  refine MetFree.of_bodySF (plainFor_of_name own_pn1) hisR ?_
  intro p e s m args below meth c s₁ Bd hml0 hP hK
  obtain ⟨rfl, hZ, hh⟩ := hP
  have hx := Bd.exec
  have hby := Bd.bytes
  have hml : c.maxLocals = 3 := hml0
  have hown : s.vm.findClass "java/util/Arrays" = some m.cls := findClass_of_methodNamed Bd.named
  have hnm := (name_of_methodNamed Bd.named Bd.method).1
  have X0 : Stand p l e ({ frames := 1, cells := 1, slots := 16, locals := 18 } : Room) s m #[(.ref asr), (.int u)] below meth c s₁ [] 0 0 := Stand.of_body Bd
  have e0 : s₁.heap = h0 := by rw [← hh, Bd.state]; rfl
  have N0 := Fr.nil n0
  have st0 : own_Go p e below (s₁.setTop (mkF m 0 #[.val (.ref asr), .val (.int u), .unset] [])) (s₁.setTop (entryFrame m #[(.ref asr), (.int u)] 3)) := fun t k => castTop (own_ef5_RI m asr u) k
  have k0 : Keep h0 h0 [] := Keep.refl _ _
  have hn31 := Asr.small
  have st1 : own_Go p e below (s₁.setTop (mkF m 2 #[.val (.ref asr), .val (.int u), .unset] [(.ref asr), (.int u)])) (s₁.setTop (entryFrame m #[(.ref asr), (.int u)] 3)) := fun t kt => st0 t (by
    show Steps p.tables e below (s₁.setTop (mkF m 0 #[.val (.ref asr), .val (.int u), .unset] [])) _
    refine XS.iloadN X0.here hx rfl (hb hby d5_0) rfl ?_
    show Steps p.tables e below (s₁.setTop (mkF m 1 #[.val (.ref asr), .val (.int u), .unset] [(.int u)])) _
    refine XS.aloadN X0.here hx rfl (hb hby d5_1) rfl rfl ?_
    show Steps p.tables e below (s₁.setTop (mkF m 2 #[.val (.ref asr), .val (.int u), .unset] [(.ref asr), (.int u)])) _
    exact kt)
  have ls2 := own_alen X0 hx hZ e0 Asr (g := (mkF m 2 #[.val (.ref asr), .val (.int u), .unset] [(.ref asr), (.int u)])) rfl rfl (hb hby d5_2)
  have st3 : own_Go p e below (s₁.setTop (mkF m 3 #[.val (.ref asr), .val (.int u), .unset] [(.int (Int32.ofNat n)), (.int u)])) (s₁.setTop (entryFrame m #[(.ref asr), (.int u)] 3)) := fun t kt => st1 t (ls2 t kt)
  have hc4 : ¬ (u = (Int32.ofNat n)) := fun z => by
      have e := (own_nat32 hn31).1
      rw [← z, hk] at e
      omega
  have st5 : own_Go p e below (s₁.setTop (mkF m 15 #[.val (.ref asr), .val (.int u), .unset] [(.int u)])) (s₁.setTop (entryFrame m #[(.ref asr), (.int u)] 3)) := fun t kt => st3 t (by
    show Steps p.tables e below (s₁.setTop (mkF m 3 #[.val (.ref asr), .val (.int u), .unset] [(.int (Int32.ofNat n)), (.int u)])) _
    refine XS.icmpYes X0.here hx rfl (pc0 := 3) (pc' := 14) rfl (hb hby d5_3) rfl (feq hc4).2 (by decide) (by decide) ?_
    show Steps p.tables e below (s₁.setTop (mkF m 14 #[.val (.ref asr), .val (.int u), .unset] [])) _
    refine XS.iloadN X0.here hx rfl (hb hby d5_14) rfl ?_
    show Steps p.tables e below (s₁.setTop (mkF m 15 #[.val (.ref asr), .val (.int u), .unset] [(.int u)])) _
    exact kt)
  obtain ⟨T6, h6, c6, X6, e6, E6, A6, ls6⟩ := newP X0 hx hZ (hw _ (List.mem_of_getElem? (i := 10) rfl)) e0 (g := (mkF m 15 #[.val (.ref asr), .val (.int u), .unset] [(.int u)])) rfl (hb hby d5_15) rfl (hu) (cap := 16) (by rw [hk]; exact hk16) (by decide) (by decide) (by decide)
  obtain ⟨bn, g6⟩ : ∃ z, z = h0.size := ⟨_, rfl⟩
  rw [← g6] at A6 ls6
  have ne_asr_bn : asr ≠ bn := Nat.ne_of_lt (Nat.lt_of_lt_of_le Asr.lt (Nat.le_of_eq g6.symm))
  have g_bn : n0 ≤ bn := Nat.le_trans Z0 (Nat.le_of_eq g6.symm)
  have sz_bn : h0.size ≤ bn := Nat.le_trans k0.1 (Nat.le_of_eq g6.symm)
  have f7 := Asr.ext E6
  have z8 := Nat.le_trans Z0 E6.1
  have k9 := k0.ext E6
  have f10 : own_Av Z h6 bn .long k (fun _ => (.long (0 : Int64))) := own_Av.new A6 (hu) (hk)
  have st11 : own_Go p e below (T6.setTop (mkF m 17 #[.val (.ref asr), .val (.int u), .unset] [(.ref bn)])) (s₁.setTop (entryFrame m #[(.ref asr), (.int u)] 3)) := fun t kt => st5 t (ls6 t kt)
  have st12 : own_Go p e below (T6.setTop (mkF m 23 #[.val (.ref asr), .val (.int u), .val (.ref bn)] [(.ref asr), (.int (0 : Int32)), (.ref bn), (.int (0 : Int32)), (.ref asr)])) (s₁.setTop (entryFrame m #[(.ref asr), (.int u)] 3)) := fun t kt => st11 t (by
    show Steps p.tables e below (T6.setTop (mkF m 17 #[.val (.ref asr), .val (.int u), .unset] [(.ref bn)])) _
    refine XS.astoreN X6.here hx rfl (hb hby d5_17) rfl rfl (l' := #[.val (.ref asr), .val (.int u), .val (.ref bn)]) rfl ?_
    show Steps p.tables e below (T6.setTop (mkF m 18 #[.val (.ref asr), .val (.int u), .val (.ref bn)] [])) _
    refine XS.aloadN X6.here hx rfl (hb hby d5_18) rfl rfl ?_
    show Steps p.tables e below (T6.setTop (mkF m 19 #[.val (.ref asr), .val (.int u), .val (.ref bn)] [(.ref asr)])) _
    refine XS.iconst X6.here hx rfl (hb hby d5_19) ?_
    show Steps p.tables e below (T6.setTop (mkF m 20 #[.val (.ref asr), .val (.int u), .val (.ref bn)] [(.int (0 : Int32)), (.ref asr)])) _
    refine XS.aloadN X6.here hx rfl (hb hby d5_20) rfl rfl ?_
    show Steps p.tables e below (T6.setTop (mkF m 21 #[.val (.ref asr), .val (.int u), .val (.ref bn)] [(.ref bn), (.int (0 : Int32)), (.ref asr)])) _
    refine XS.iconst X6.here hx rfl (hb hby d5_21) ?_
    show Steps p.tables e below (T6.setTop (mkF m 22 #[.val (.ref asr), .val (.int u), .val (.ref bn)] [(.int (0 : Int32)), (.ref bn), (.int (0 : Int32)), (.ref asr)])) _
    refine XS.aloadN X6.here hx rfl (hb hby d5_22) rfl rfl ?_
    show Steps p.tables e below (T6.setTop (mkF m 23 #[.val (.ref asr), .val (.int u), .val (.ref bn)] [(.ref asr), (.int (0 : Int32)), (.ref bn), (.int (0 : Int32)), (.ref asr)])) _
    exact kt)
  have ls13 := own_alen X6 hx hZ e6 f7 (g := (mkF m 23 #[.val (.ref asr), .val (.int u), .val (.ref bn)] [(.ref asr), (.int (0 : Int32)), (.ref bn), (.int (0 : Int32)), (.ref asr)])) rfl rfl (hb hby d5_23)
  have st14 : own_Go p e below (T6.setTop (mkF m 24 #[.val (.ref asr), .val (.int u), .val (.ref bn)] [(.int (Int32.ofNat n)), (.int (0 : Int32)), (.ref bn), (.int (0 : Int32)), (.ref asr)])) (s₁.setTop (entryFrame m #[(.ref asr), (.int u)] 3)) := fun t kt => st12 t (ls13 t kt)
  have st15 : own_Go p e below (T6.setTop (mkF m 25 #[.val (.ref asr), .val (.int u), .val (.ref bn)] [(.int u), (.int (Int32.ofNat n)), (.int (0 : Int32)), (.ref bn), (.int (0 : Int32)), (.ref asr)])) (s₁.setTop (entryFrame m #[(.ref asr), (.int u)] 3)) := fun t kt => st14 t (by
    show Steps p.tables e below (T6.setTop (mkF m 24 #[.val (.ref asr), .val (.int u), .val (.ref bn)] [(.int (Int32.ofNat n)), (.int (0 : Int32)), (.ref bn), (.int (0 : Int32)), (.ref asr)])) _
    refine XS.iloadN X6.here hx rfl (hb hby d5_24) rfl ?_
    show Steps p.tables e below (T6.setTop (mkF m 25 #[.val (.ref asr), .val (.int u), .val (.ref bn)] [(.int u), (.int (Int32.ofNat n)), (.int (0 : Int32)), (.ref bn), (.int (0 : Int32)), (.ref asr)])) _
    exact kt)
  obtain ⟨_, _, ⟨T16, L16, k16, n16⟩, -, X16, ⟨Lc16, hQ16, l16, y16, z16⟩, ls16⟩ := Jvm.LawKit.callS X6 hx (y := (⟨"java/lang/Math", "min", "(II)I"⟩ : MethodName)) hown (mvT hZ (hw _ (List.mem_of_getElem? (i := 26) rfl))) (mvT hZ (hw _ (List.mem_of_getElem? (i := 27) rfl))) (mvT hZ (hw _ (List.mem_of_getElem? (i := 20) rfl))) (mvT hZ (hw _ (List.mem_of_getElem? (i := 28) rfl))) (by decide) (backOf (W := 4) (rm_min l Z a0 hw [] ((Int32.ofNat n)) u h6 n0 z8) hZ (hw _ (List.mem_of_getElem? (i := 28) rfl)) (hw _ (List.mem_of_getElem? (i := 20) rfl)) (by decide) (by decide)) (g := (mkF m 25 #[.val (.ref asr), .val (.int u), .val (.ref bn)] [(.int u), (.int (Int32.ofNat n)), (.int (0 : Int32)), (.ref bn), (.int (0 : Int32)), (.ref asr)])) rfl (by rw [hml]; rfl) (argsL := [(.int (Int32.ofNat n)), (.int u)]) (rest := [(.int (0 : Int32)), (.ref bn), (.int (0 : Int32)), (.ref asr)]) (lenOf own_pd0 rfl) rfl (by show 2 * 0 + _ ≤ _; exact Nat.le_of_eq rfl) (hb hby d5_25) (fun _ _ => ⟨rfl, e6, (by decide : 1 + 0 ≤ _), (by decide : 16 + 0 ≤ _)⟩)
  dsimp only [Pt.U, Pt.locs, Pt.cells, Pt.slots] at X16 l16 y16 z16 ls16 hQ16
  subst l16 y16 z16
  obtain ⟨rfl, Nq16, eq16⟩ := hQ16
  have N16 := Fr.app N0 Nq16
  have st17 : own_Go p e below (T16.setTop (mkF m 28 #[.val (.ref asr), .val (.int u), .val (.ref bn)] [(.int (own_mn (Int32.ofNat n) u)), (.int (0 : Int32)), (.ref bn), (.int (0 : Int32)), (.ref asr)])) (s₁.setTop (entryFrame m #[(.ref asr), (.int u)] 3)) := fun t kt => st15 t (ls16 t kt)
  have hmn := own_mn_eq hn31 hu hk hkn
  obtain ⟨T18, h18, L18, X18, e18, N18, K18, B18, ls18⟩ := own_cp X16 hx hZ hown (hw _ (List.mem_of_getElem? (i := 29) rfl)) (hw _ (List.mem_of_getElem? (i := 32) rfl)) (hw _ (List.mem_of_getElem? (i := 30) rfl)) (hw _ (List.mem_of_getElem? (i := 31) rfl)) eq16 (ty := .long) rfl f7 f10 (fun _ _ => rfl) (fun _ _ => rfl) (i := 0) (j := 0) (k := n) (by decide) (by decide) (by decide) (by decide) (by rw [hmn]; exact (own_nat32 hn31).2) (by rw [hmn]; exact (own_nat32 hn31).1) (by omega) (by omega) N16 g_bn (g := (mkF m 28 #[.val (.ref asr), .val (.int u), .val (.ref bn)] [(.int (own_mn (Int32.ofNat n) u)), (.int (0 : Int32)), (.ref bn), (.int (0 : Int32)), (.ref asr)])) rfl (by rw [hml]; rfl) rfl (hb hby d5_28) (by decide) (W := 0) (by show 2 * 0 + _ ≤ _; exact Nat.le_of_eq rfl) (by decide)
  have f19 := f7.keep K18 (ninS ne_asr_bn nin0)
  have z21 := Nat.le_trans z8 K18.1
  have k22 := Keep.trans k9 K18 (allS (P := fun x => x ∈ [] ∨ h0.size ≤ x) (Or.inr sz_bn) all0)
  have f23 : own_Av Z h18 bn .long k (fun q => .long (if q < n then f q else 0)) := B18.congr (fun q hq => by
      by_cases z : q < n
      · simp [z]
      · simp [z])
  have st24 : own_Go p e below (T18.setTop (mkF m 31 #[.val (.ref asr), .val (.int u), .val (.ref bn)] [])) (s₁.setTop (entryFrame m #[(.ref asr), (.int u)] 3)) := fun t kt => st17 t (ls18 t kt)
  have st25 : own_Go p e below (T18.setTop (mkF m 32 #[.val (.ref asr), .val (.int u), .val (.ref bn)] [(.ref bn)])) (s₁.setTop (entryFrame m #[(.ref asr), (.int u)] 3)) := fun t kt => st24 t (by
    show Steps p.tables e below (T18.setTop (mkF m 31 #[.val (.ref asr), .val (.int u), .val (.ref bn)] [])) _
    refine XS.aloadN X18.here hx rfl (hb hby d5_31) rfl rfl ?_
    show Steps p.tables e below (T18.setTop (mkF m 32 #[.val (.ref asr), .val (.int u), .val (.ref bn)] [(.ref bn)])) _
    exact kt)
  obtain ⟨fs, hr, hrun, hended, hW, hsame⟩ := X18.leave (v := (some (.ref bn))) (fun h => by rw [Bd.returns] at h; cases h)
  refine ⟨_, _, st25 _ ?_, hrun, hended, _, _, rfl, ?_, ⟨_, rfl⟩, hW, hsame.mono (by decide) (by decide)⟩
  · exact retOut X18 hx Bd.returns rfl (Or.inr (Or.inr (Or.inr (Or.inr ⟨rfl, rfl, rfl⟩)))) (hb hby d5_32) hr
  · show Q_rm_copy Z asr u n f k h0 n0 _ T18.heap _
    rw [e18]
    exact ⟨bn, rfl, N18, k22, g_bn, sz_bn, f23⟩
def Q_rm_start (Z : State) (ao : Addr) (u : Int32) (st : Int32) (n : Nat) (f : Nat → Int64) (k : Nat) (h0 : Heap) (n0 : Nat) (v : Option Value) (h : Heap) (L : List Loc) : Prop := v = none ∧ Fr n0 L ∧ n0 ≤ h.size ∧ own_M Z h n0 ao (st + 1) (own_nl n k) (fun q => if q < n then f q else 0)
set_option maxRecDepth 65536 in
set_option maxHeartbeats 40000000 in
theorem rm_start (l : Launch) (Z : State) (a0 : Array Value) (hw : ∀ d ∈ tables_1, d.before a0 Z = true) (ws : List Jvm.Cond) (ao : Addr) (u : Int32) (st : Int32) (n : Nat) (f : Nat → Int64) (k : Nat) (h0 : Heap) (n0 : Nat) (Z0 : n0 ≤ h0.size) (M : own_M Z h0 n0 ao st n f) (hu : ¬ u < 0) (hk : u.toNatClampNeg = k) (hk16 : k ≤ 16) (hn16 : n ≤ 16) (hnk : n < k → 2 * n ≤ 16) (hst : ¬ (st + 1) = 0) :
    MetFree l (⟨"com/example/saturation/saturation/WalkMemo", "start", "(I)V"⟩ : MethodName) (head1 (Jvm.Cond.code (⟨"com/example/saturation/saturation/WalkMemo", "start", "(I)V"⟩ : MethodName) prog_65_method_2_code 2 none :: ws) ({ frames := 2, cells := 1, slots := 16, locals := 33 } : Room)) (fun a U => a = #[(.ref ao), (.int u)] ∧ Z.Warmed39 U.vm ∧ U.heap = h0) (fun _ _ _ _ _ => True) (fun _ U o U' => ∃ v L, o = .returned v ∧ Q_rm_start Z ao u st n f k h0 n0 v U'.heap L ∧ FrameEnd U o U' L ({ frames := 2, cells := 1, slots := 16, locals := 33 } : Room).cells ({ frames := 2, cells := 1, slots := 16, locals := 33 } : Room).slots) := by
  refine MetFree.of_bodySF (plainFor_of_name own_pn0) hisR ?_
  intro p e s m args below meth c s₁ Bd hml0 hP hK
  obtain ⟨rfl, hZ, hh⟩ := hP
  have hx := Bd.exec
  have hby := Bd.bytes
  have hml : c.maxLocals = 2 := hml0
  have hown : s.vm.findClass "com/example/saturation/saturation/WalkMemo" = some m.cls := findClass_of_methodNamed Bd.named
  have hnm := (name_of_methodNamed Bd.named Bd.method).1
  have X0 : Stand p l e ({ frames := 2, cells := 1, slots := 16, locals := 33 } : Room) s m #[(.ref ao), (.int u)] below meth c s₁ [] 0 0 := Stand.of_body Bd
  have e0 : s₁.heap = h0 := by rw [← hh, Bd.state]; rfl
  have N0 := Fr.nil n0
  have st0 : own_Go p e below (s₁.setTop (mkF m 0 #[.val (.ref ao), .val (.int u)] [])) (s₁.setTop (entryFrame m #[(.ref ao), (.int u)] 2)) := fun t k => castTop (own_ef3_RI m ao u) k
  obtain ⟨E_ao, g_ao, F_st, bb, g_bb, ne_ab, F_en, A_bb⟩ := M
  have hn31 := A_bb.small
  have st1 : own_Go p e below (s₁.setTop (mkF m 1 #[.val (.ref ao), .val (.int u)] [(.ref ao)])) (s₁.setTop (entryFrame m #[(.ref ao), (.int u)] 2)) := fun t kt => st0 t (by
    show Steps p.tables e below (s₁.setTop (mkF m 0 #[.val (.ref ao), .val (.int u)] [])) _
    refine XS.aloadN X0.here hx rfl (hb hby d3_0) rfl rfl ?_
    show Steps p.tables e below (s₁.setTop (mkF m 1 #[.val (.ref ao), .val (.int u)] [(.ref ao)])) _
    exact kt)
  obtain ⟨T2, X2, e2, ls2⟩ := getF X0 hx hZ hown (host := "") (Or.inl (hw _ (List.mem_of_getElem? (i := 11) rfl))) Via.refl e0 F_en (g := (mkF m 1 #[.val (.ref ao), .val (.int u)] [(.ref ao)])) rfl rfl (hb hby d3_1)
  have st3 : own_Go p e below (T2.setTop (mkF m 4 #[.val (.ref ao), .val (.int u)] [(.ref bb)])) (s₁.setTop (entryFrame m #[(.ref ao), (.int u)] 2)) := fun t kt => st1 t (ls2 t kt)
  have ls4 := own_alen X2 hx hZ e2 A_bb (g := (mkF m 4 #[.val (.ref ao), .val (.int u)] [(.ref bb)])) rfl rfl (hb hby d3_4)
  have st5 : own_Go p e below (T2.setTop (mkF m 5 #[.val (.ref ao), .val (.int u)] [(.int (Int32.ofNat n))])) (s₁.setTop (entryFrame m #[(.ref ao), (.int u)] 2)) := fun t kt => st3 t (ls4 t kt)
  have st6 : own_Go p e below (T2.setTop (mkF m 6 #[.val (.ref ao), .val (.int u)] [(.int u), (.int (Int32.ofNat n))])) (s₁.setTop (entryFrame m #[(.ref ao), (.int u)] 2)) := fun t kt => st5 t (by
    show Steps p.tables e below (T2.setTop (mkF m 5 #[.val (.ref ao), .val (.int u)] [(.int (Int32.ofNat n))])) _
    refine XS.iloadN X2.here hx rfl (hb hby d3_5) rfl ?_
    show Steps p.tables e below (T2.setTop (mkF m 6 #[.val (.ref ao), .val (.int u)] [(.int u), (.int (Int32.ofNat n))])) _
    exact kt)
  by_cases q1 : (Int32.ofNat n) < u
  · have hlt := (own_lt hn31 hu hk).mp q1
    have h2 := own_two n k u hn16 hu hk hk16
    have st7 : own_Go p e below (T2.setTop (mkF m 11 #[.val (.ref ao), .val (.int u)] [(.ref ao), (.ref ao)])) (s₁.setTop (entryFrame m #[(.ref ao), (.int u)] 2)) := fun t kt => st6 t (by
      show Steps p.tables e below (T2.setTop (mkF m 6 #[.val (.ref ao), .val (.int u)] [(.int u), (.int (Int32.ofNat n))])) _
      refine XS.icmpNo X2.here hx rfl (hb hby d3_6) rfl (tlt q1).2.1 ?_
      show Steps p.tables e below (T2.setTop (mkF m 9 #[.val (.ref ao), .val (.int u)] [])) _
      refine XS.aloadN X2.here hx rfl (hb hby d3_9) rfl rfl ?_
      show Steps p.tables e below (T2.setTop (mkF m 10 #[.val (.ref ao), .val (.int u)] [(.ref ao)])) _
      refine XS.aloadN X2.here hx rfl (hb hby d3_10) rfl rfl ?_
      show Steps p.tables e below (T2.setTop (mkF m 11 #[.val (.ref ao), .val (.int u)] [(.ref ao), (.ref ao)])) _
      exact kt)
    obtain ⟨T8, X8, e8, ls8⟩ := getF X2 hx hZ hown (host := "") (Or.inl (hw _ (List.mem_of_getElem? (i := 11) rfl))) Via.refl e2 F_en (g := (mkF m 11 #[.val (.ref ao), .val (.int u)] [(.ref ao), (.ref ao)])) rfl rfl (hb hby d3_11)
    have st9 : own_Go p e below (T8.setTop (mkF m 14 #[.val (.ref ao), .val (.int u)] [(.ref bb), (.ref ao)])) (s₁.setTop (entryFrame m #[(.ref ao), (.int u)] 2)) := fun t kt => st7 t (ls8 t kt)
    have st10 : own_Go p e below (T8.setTop (mkF m 17 #[.val (.ref ao), .val (.int u)] [(.ref ao), (.int (2 : Int32)), (.int u), (.ref bb), (.ref ao)])) (s₁.setTop (entryFrame m #[(.ref ao), (.int u)] 2)) := fun t kt => st9 t (by
      show Steps p.tables e below (T8.setTop (mkF m 14 #[.val (.ref ao), .val (.int u)] [(.ref bb), (.ref ao)])) _
      refine XS.iloadN X8.here hx rfl (hb hby d3_14) rfl ?_
      show Steps p.tables e below (T8.setTop (mkF m 15 #[.val (.ref ao), .val (.int u)] [(.int u), (.ref bb), (.ref ao)])) _
      refine XS.iconst X8.here hx rfl (hb hby d3_15) ?_
      show Steps p.tables e below (T8.setTop (mkF m 16 #[.val (.ref ao), .val (.int u)] [(.int (2 : Int32)), (.int u), (.ref bb), (.ref ao)])) _
      refine XS.aloadN X8.here hx rfl (hb hby d3_16) rfl rfl ?_
      show Steps p.tables e below (T8.setTop (mkF m 17 #[.val (.ref ao), .val (.int u)] [(.ref ao), (.int (2 : Int32)), (.int u), (.ref bb), (.ref ao)])) _
      exact kt)
    obtain ⟨T11, X11, e11, ls11⟩ := getF X8 hx hZ hown (host := "") (Or.inl (hw _ (List.mem_of_getElem? (i := 11) rfl))) Via.refl e8 F_en (g := (mkF m 17 #[.val (.ref ao), .val (.int u)] [(.ref ao), (.int (2 : Int32)), (.int u), (.ref bb), (.ref ao)])) rfl rfl (hb hby d3_17)
    have st12 : own_Go p e below (T11.setTop (mkF m 20 #[.val (.ref ao), .val (.int u)] [(.ref bb), (.int (2 : Int32)), (.int u), (.ref bb), (.ref ao)])) (s₁.setTop (entryFrame m #[(.ref ao), (.int u)] 2)) := fun t kt => st10 t (ls11 t kt)
    have ls13 := own_alen X11 hx hZ e11 A_bb (g := (mkF m 20 #[.val (.ref ao), .val (.int u)] [(.ref bb), (.int (2 : Int32)), (.int u), (.ref bb), (.ref ao)])) rfl rfl (hb hby d3_20)
    have st14 : own_Go p e below (T11.setTop (mkF m 21 #[.val (.ref ao), .val (.int u)] [(.int (Int32.ofNat n)), (.int (2 : Int32)), (.int u), (.ref bb), (.ref ao)])) (s₁.setTop (entryFrame m #[(.ref ao), (.int u)] 2)) := fun t kt => st12 t (ls13 t kt)
    have st15 : own_Go p e below (T11.setTop (mkF m 22 #[.val (.ref ao), .val (.int u)] [(.int ((2 : Int32) * (Int32.ofNat n))), (.int u), (.ref bb), (.ref ao)])) (s₁.setTop (entryFrame m #[(.ref ao), (.int u)] 2)) := fun t kt => st14 t (by
      show Steps p.tables e below (T11.setTop (mkF m 21 #[.val (.ref ao), .val (.int u)] [(.int (Int32.ofNat n)), (.int (2 : Int32)), (.int u), (.ref bb), (.ref ao)])) _
      refine XS.imul X11.here hx rfl (hb hby d3_21) rfl ?_
      show Steps p.tables e below (T11.setTop (mkF m 22 #[.val (.ref ao), .val (.int u)] [(.int ((2 : Int32) * (Int32.ofNat n))), (.int u), (.ref bb), (.ref ao)])) _
      exact kt)
    obtain ⟨_, _, ⟨T16, L16, k16, n16⟩, -, X16, ⟨Lc16, hQ16, l16, y16, z16⟩, ls16⟩ := Jvm.LawKit.callS X11 hx (y := (⟨"java/lang/Math", "max", "(II)I"⟩ : MethodName)) hown (mvT hZ (hw _ (List.mem_of_getElem? (i := 18) rfl))) (mvT hZ (hw _ (List.mem_of_getElem? (i := 19) rfl))) (mvT hZ (hw _ (List.mem_of_getElem? (i := 20) rfl))) (mvT hZ (hw _ (List.mem_of_getElem? (i := 21) rfl))) (by decide) (backOf (W := 2) (rm_max l Z a0 hw [] u (((2 : Int32) * (Int32.ofNat n))) h0 n0 Z0) hZ (hw _ (List.mem_of_getElem? (i := 21) rfl)) (hw _ (List.mem_of_getElem? (i := 20) rfl)) (by decide) (by decide)) (g := (mkF m 22 #[.val (.ref ao), .val (.int u)] [(.int ((2 : Int32) * (Int32.ofNat n))), (.int u), (.ref bb), (.ref ao)])) rfl (by rw [hml]; rfl) (argsL := [(.int u), (.int ((2 : Int32) * (Int32.ofNat n)))]) (rest := [(.ref bb), (.ref ao)]) (lenOf own_pd0 rfl) rfl (by show 2 * 0 + _ ≤ _; exact Nat.le_of_eq rfl) (hb hby d3_22) (fun _ _ => ⟨rfl, e11, (by decide : 0 + 0 ≤ _), (by decide : 0 + 0 ≤ _)⟩)
    dsimp only [Pt.U, Pt.locs, Pt.cells, Pt.slots] at X16 l16 y16 z16 ls16 hQ16
    subst l16 y16 z16
    obtain ⟨rfl, Nq16, eq16⟩ := hQ16
    have N16 := Fr.app N0 Nq16
    have st17 : own_Go p e below (T16.setTop (mkF m 25 #[.val (.ref ao), .val (.int u)] [(.int (own_max u ((2 : Int32) * (Int32.ofNat n)))), (.ref bb), (.ref ao)])) (s₁.setTop (entryFrame m #[(.ref ao), (.int u)] 2)) := fun t kt => st15 t (ls16 t kt)
    have lt18_ao := E_ao.lt
    have lt18_bb := A_bb.lt
    obtain ⟨_, _, ⟨T18, L18, k18, n18⟩, -, X18, ⟨Lc18, hQ18, l18, y18, z18⟩, ls18⟩ := Jvm.LawKit.callS X16 hx (y := (⟨"java/util/Arrays", "copyOf", "([JI)[J"⟩ : MethodName)) hown (mvT hZ (hw _ (List.mem_of_getElem? (i := 22) rfl))) (mvT hZ (hw _ (List.mem_of_getElem? (i := 23) rfl))) (mvT hZ (hw _ (List.mem_of_getElem? (i := 24) rfl))) (mvT hZ (hw _ (List.mem_of_getElem? (i := 25) rfl))) (by decide) (backOf (W := 1) (rm_copy l Z a0 hw [] bb ((own_max u ((2 : Int32) * (Int32.ofNat n)))) n f ((max k (2 * n))) h0 n0 Z0 A_bb h2.1 h2.2 (by omega) (by have := hnk hlt; omega)) hZ (hw _ (List.mem_of_getElem? (i := 25) rfl)) (hw _ (List.mem_of_getElem? (i := 24) rfl)) (by decide) (by decide)) (g := (mkF m 25 #[.val (.ref ao), .val (.int u)] [(.int (own_max u ((2 : Int32) * (Int32.ofNat n)))), (.ref bb), (.ref ao)])) rfl (by rw [hml]; rfl) (argsL := [(.ref bb), (.int (own_max u ((2 : Int32) * (Int32.ofNat n))))]) (rest := [(.ref ao)]) (lenOf own_pd1 rfl) rfl (by show 2 * 0 + _ ≤ _; exact Nat.le_of_eq rfl) (hb hby d3_25) (fun _ _ => ⟨rfl, eq16, (by decide : 0 + 1 ≤ _), (by decide : 0 + 16 ≤ _)⟩)
    dsimp only [Pt.U, Pt.locs, Pt.cells, Pt.slots] at X18 l18 y18 z18 ls18 hQ18
    subst l18 y18 z18
    obtain ⟨bq18, rfl, Nq18, Kq18, g_bq18, sq18, Aq18⟩ := hQ18
    have N18 := Fr.app N16 Nq18
    have f19 := E_ao.keep Kq18
    have f20 := F_st.keep Kq18 nin0
    have f21 := F_en.keep Kq18 nin0
    have f22 := A_bb.keep Kq18 nin0
    have z23 := Nat.le_trans Z0 Kq18.1
    have ne_ao_bq18 : ao ≠ bq18 := Nat.ne_of_lt (Nat.lt_of_lt_of_le lt18_ao sq18)
    have ne_bb_bq18 : bb ≠ bq18 := Nat.ne_of_lt (Nat.lt_of_lt_of_le lt18_bb sq18)
    have st24 : own_Go p e below (T18.setTop (mkF m 28 #[.val (.ref ao), .val (.int u)] [(.ref bq18), (.ref ao)])) (s₁.setTop (entryFrame m #[(.ref ao), (.int u)] 2)) := fun t kt => st17 t (ls18 t kt)
    obtain ⟨T25, h25, X25, e25, W25, ls25⟩ := putF X18 hx hZ hown (host := "") (Or.inl (hw _ (List.mem_of_getElem? (i := 11) rfl))) Via.refl rfl f21 f19 (Or.inl (hw _ (List.mem_of_getElem? (i := 12) rfl))) (hw _ (List.mem_of_getElem? (i := 2) rfl)) (ty := (.array .long)) (by decide) rfl rfl (g := (mkF m 28 #[.val (.ref ao), .val (.int u)] [(.ref bq18), (.ref ao)])) rfl rfl (hb hby d3_28)
    have N25 := Fr.snoc X25 N18 g_ao
    have f26 := f19.wr W25
    have f27 := f20.other W25 (Or.inr (slot_ne (Or.inl (hw _ (List.mem_of_getElem? (i := 34) rfl))) (Or.inl (hw _ (List.mem_of_getElem? (i := 12) rfl))) (by decide) (t := .int) (t' := (.array .long)) (by decide) (by decide)))
    have f28 := f21.same W25
    have f29 := f22.other W25 (Ne.symm ne_ab)
    have f30 := Aq18.other W25 (Ne.symm ne_ao_bq18)
    have z31 := Nat.le_trans z23 (Keep.of_wr W25).1
    have st32 : own_Go p e below (T25.setTop (mkF m 31 #[.val (.ref ao), .val (.int u)] [])) (s₁.setTop (entryFrame m #[(.ref ao), (.int u)] 2)) := fun t kt => st24 t (ls25 t kt)
    have st33 : own_Go p e below (T25.setTop (mkF m 33 #[.val (.ref ao), .val (.int u)] [(.ref ao), (.ref ao)])) (s₁.setTop (entryFrame m #[(.ref ao), (.int u)] 2)) := fun t kt => st32 t (by
      show Steps p.tables e below (T25.setTop (mkF m 31 #[.val (.ref ao), .val (.int u)] [])) _
      refine XS.aloadN X25.here hx rfl (hb hby d3_31) rfl rfl ?_
      show Steps p.tables e below (T25.setTop (mkF m 32 #[.val (.ref ao), .val (.int u)] [(.ref ao)])) _
      refine XS.dup X25.here hx rfl (hb hby d3_32) rfl rfl ?_
      show Steps p.tables e below (T25.setTop (mkF m 33 #[.val (.ref ao), .val (.int u)] [(.ref ao), (.ref ao)])) _
      exact kt)
    obtain ⟨T34, X34, e34, ls34⟩ := getF X25 hx hZ hown (host := "") (Or.inl (hw _ (List.mem_of_getElem? (i := 33) rfl))) Via.refl e25 f27 (g := (mkF m 33 #[.val (.ref ao), .val (.int u)] [(.ref ao), (.ref ao)])) rfl rfl (hb hby d3_33)
    have st35 : own_Go p e below (T34.setTop (mkF m 36 #[.val (.ref ao), .val (.int u)] [(.int st), (.ref ao)])) (s₁.setTop (entryFrame m #[(.ref ao), (.int u)] 2)) := fun t kt => st33 t (ls34 t kt)
    have st36 : own_Go p e below (T34.setTop (mkF m 38 #[.val (.ref ao), .val (.int u)] [(.int (st + (1 : Int32))), (.ref ao)])) (s₁.setTop (entryFrame m #[(.ref ao), (.int u)] 2)) := fun t kt => st35 t (by
      show Steps p.tables e below (T34.setTop (mkF m 36 #[.val (.ref ao), .val (.int u)] [(.int st), (.ref ao)])) _
      refine XS.iconst X34.here hx rfl (hb hby d3_36) ?_
      show Steps p.tables e below (T34.setTop (mkF m 37 #[.val (.ref ao), .val (.int u)] [(.int (1 : Int32)), (.int st), (.ref ao)])) _
      refine XS.iadd X34.here hx rfl (hb hby d3_37) rfl ?_
      show Steps p.tables e below (T34.setTop (mkF m 38 #[.val (.ref ao), .val (.int u)] [(.int (st + (1 : Int32))), (.ref ao)])) _
      exact kt)
    obtain ⟨T37, h37, X37, e37, W37, ls37⟩ := putF X34 hx hZ hown (host := "") (Or.inl (hw _ (List.mem_of_getElem? (i := 33) rfl))) Via.refl e34 f27 f26 (Or.inl (hw _ (List.mem_of_getElem? (i := 34) rfl))) (hw _ (List.mem_of_getElem? (i := 2) rfl)) (ty := .int) (by decide) rfl rfl (g := (mkF m 38 #[.val (.ref ao), .val (.int u)] [(.int (st + (1 : Int32))), (.ref ao)])) rfl rfl (hb hby d3_38)
    have N37 := Fr.snoc X37 N25 g_ao
    have f38 := f26.wr W37
    have f39 := f27.same W37
    have f40 := f28.other W37 (Or.inr (slot_ne (Or.inl (hw _ (List.mem_of_getElem? (i := 12) rfl))) (Or.inl (hw _ (List.mem_of_getElem? (i := 34) rfl))) (by decide) (t := (.array .long)) (t' := .int) (by decide) (by decide)))
    have f41 := f29.other W37 (Ne.symm ne_ab)
    have f42 := f30.other W37 (Ne.symm ne_ao_bq18)
    have z43 := Nat.le_trans z31 (Keep.of_wr W37).1
    have st44 : own_Go p e below (T37.setTop (mkF m 41 #[.val (.ref ao), .val (.int u)] [])) (s₁.setTop (entryFrame m #[(.ref ao), (.int u)] 2)) := fun t kt => st36 t (ls37 t kt)
    have st45 : own_Go p e below (T37.setTop (mkF m 42 #[.val (.ref ao), .val (.int u)] [(.ref ao)])) (s₁.setTop (entryFrame m #[(.ref ao), (.int u)] 2)) := fun t kt => st44 t (by
      show Steps p.tables e below (T37.setTop (mkF m 41 #[.val (.ref ao), .val (.int u)] [])) _
      refine XS.aloadN X37.here hx rfl (hb hby d3_41) rfl rfl ?_
      show Steps p.tables e below (T37.setTop (mkF m 42 #[.val (.ref ao), .val (.int u)] [(.ref ao)])) _
      exact kt)
    obtain ⟨T46, X46, e46, ls46⟩ := getF X37 hx hZ hown (host := "") (Or.inl (hw _ (List.mem_of_getElem? (i := 33) rfl))) Via.refl e37 f39 (g := (mkF m 42 #[.val (.ref ao), .val (.int u)] [(.ref ao)])) rfl rfl (hb hby d3_42)
    have st47 : own_Go p e below (T46.setTop (mkF m 45 #[.val (.ref ao), .val (.int u)] [(.int (st + (1 : Int32)))])) (s₁.setTop (entryFrame m #[(.ref ao), (.int u)] 2)) := fun t kt => st45 t (ls46 t kt)
    have hc48 : ¬ ((st + (1 : Int32)) = (0 : Int32)) := hst
    have st49 : own_Go p e below (T46.setTop (mkF m 61 #[.val (.ref ao), .val (.int u)] [])) (s₁.setTop (entryFrame m #[(.ref ao), (.int u)] 2)) := fun t kt => st47 t (by
      show Steps p.tables e below (T46.setTop (mkF m 45 #[.val (.ref ao), .val (.int u)] [(.int (st + (1 : Int32)))])) _
      refine XS.ifYes X46.here hx rfl (pc0 := 45) (pc' := 61) rfl (hb hby d3_45) rfl ((if0 _ _).trans (feq hc48).2) (by decide) (by decide) ?_
      show Steps p.tables e below (T46.setTop (mkF m 61 #[.val (.ref ao), .val (.int u)] [])) _
      exact kt)
    obtain ⟨fs, hr, hrun, hended, hW, hsame⟩ := X46.leave (v := none) (fun _ => rfl)
    refine ⟨_, _, st49 _ ?_, hrun, hended, _, _, rfl, ?_, ⟨_, rfl⟩, hW, hsame.mono (by decide) (by decide)⟩
    · exact X46.returnOut hx Bd.returns (hb hby d3_61) hr
    · show Q_rm_start Z ao u st n f k h0 n0 _ T46.heap _
      rw [e46]
      exact ⟨rfl, N37, z43, f38, g_ao, f39, bq18, g_bq18, ne_ao_bq18, f40, by
        unfold own_nl
        rw [if_pos hlt]
        exact f42⟩
  · have hlt : ¬ n < k := fun z => q1 ((own_lt hn31 hu hk).mpr z)
    have st50 : own_Go p e below (T2.setTop (mkF m 33 #[.val (.ref ao), .val (.int u)] [(.ref ao), (.ref ao)])) (s₁.setTop (entryFrame m #[(.ref ao), (.int u)] 2)) := fun t kt => st6 t (by
      show Steps p.tables e below (T2.setTop (mkF m 6 #[.val (.ref ao), .val (.int u)] [(.int u), (.int (Int32.ofNat n))])) _
      refine XS.icmpYes X2.here hx rfl (pc0 := 6) (pc' := 31) rfl (hb hby d3_6) rfl (flt q1).2.1 (by decide) (by decide) ?_
      show Steps p.tables e below (T2.setTop (mkF m 31 #[.val (.ref ao), .val (.int u)] [])) _
      refine XS.aloadN X2.here hx rfl (hb hby d3_31) rfl rfl ?_
      show Steps p.tables e below (T2.setTop (mkF m 32 #[.val (.ref ao), .val (.int u)] [(.ref ao)])) _
      refine XS.dup X2.here hx rfl (hb hby d3_32) rfl rfl ?_
      show Steps p.tables e below (T2.setTop (mkF m 33 #[.val (.ref ao), .val (.int u)] [(.ref ao), (.ref ao)])) _
      exact kt)
    obtain ⟨T51, X51, e51, ls51⟩ := getF X2 hx hZ hown (host := "") (Or.inl (hw _ (List.mem_of_getElem? (i := 33) rfl))) Via.refl e2 F_st (g := (mkF m 33 #[.val (.ref ao), .val (.int u)] [(.ref ao), (.ref ao)])) rfl rfl (hb hby d3_33)
    have st52 : own_Go p e below (T51.setTop (mkF m 36 #[.val (.ref ao), .val (.int u)] [(.int st), (.ref ao)])) (s₁.setTop (entryFrame m #[(.ref ao), (.int u)] 2)) := fun t kt => st50 t (ls51 t kt)
    have st53 : own_Go p e below (T51.setTop (mkF m 38 #[.val (.ref ao), .val (.int u)] [(.int (st + (1 : Int32))), (.ref ao)])) (s₁.setTop (entryFrame m #[(.ref ao), (.int u)] 2)) := fun t kt => st52 t (by
      show Steps p.tables e below (T51.setTop (mkF m 36 #[.val (.ref ao), .val (.int u)] [(.int st), (.ref ao)])) _
      refine XS.iconst X51.here hx rfl (hb hby d3_36) ?_
      show Steps p.tables e below (T51.setTop (mkF m 37 #[.val (.ref ao), .val (.int u)] [(.int (1 : Int32)), (.int st), (.ref ao)])) _
      refine XS.iadd X51.here hx rfl (hb hby d3_37) rfl ?_
      show Steps p.tables e below (T51.setTop (mkF m 38 #[.val (.ref ao), .val (.int u)] [(.int (st + (1 : Int32))), (.ref ao)])) _
      exact kt)
    obtain ⟨T54, h54, X54, e54, W54, ls54⟩ := putF X51 hx hZ hown (host := "") (Or.inl (hw _ (List.mem_of_getElem? (i := 33) rfl))) Via.refl e51 F_st E_ao (Or.inl (hw _ (List.mem_of_getElem? (i := 34) rfl))) (hw _ (List.mem_of_getElem? (i := 2) rfl)) (ty := .int) (by decide) rfl rfl (g := (mkF m 38 #[.val (.ref ao), .val (.int u)] [(.int (st + (1 : Int32))), (.ref ao)])) rfl rfl (hb hby d3_38)
    have N54 := Fr.snoc X54 N0 g_ao
    have f55 := E_ao.wr W54
    have f56 := F_st.same W54
    have f57 := F_en.other W54 (Or.inr (slot_ne (Or.inl (hw _ (List.mem_of_getElem? (i := 12) rfl))) (Or.inl (hw _ (List.mem_of_getElem? (i := 34) rfl))) (by decide) (t := (.array .long)) (t' := .int) (by decide) (by decide)))
    have f58 := A_bb.other W54 (Ne.symm ne_ab)
    have z59 := Nat.le_trans Z0 (Keep.of_wr W54).1
    have st60 : own_Go p e below (T54.setTop (mkF m 41 #[.val (.ref ao), .val (.int u)] [])) (s₁.setTop (entryFrame m #[(.ref ao), (.int u)] 2)) := fun t kt => st53 t (ls54 t kt)
    have st61 : own_Go p e below (T54.setTop (mkF m 42 #[.val (.ref ao), .val (.int u)] [(.ref ao)])) (s₁.setTop (entryFrame m #[(.ref ao), (.int u)] 2)) := fun t kt => st60 t (by
      show Steps p.tables e below (T54.setTop (mkF m 41 #[.val (.ref ao), .val (.int u)] [])) _
      refine XS.aloadN X54.here hx rfl (hb hby d3_41) rfl rfl ?_
      show Steps p.tables e below (T54.setTop (mkF m 42 #[.val (.ref ao), .val (.int u)] [(.ref ao)])) _
      exact kt)
    obtain ⟨T62, X62, e62, ls62⟩ := getF X54 hx hZ hown (host := "") (Or.inl (hw _ (List.mem_of_getElem? (i := 33) rfl))) Via.refl e54 f56 (g := (mkF m 42 #[.val (.ref ao), .val (.int u)] [(.ref ao)])) rfl rfl (hb hby d3_42)
    have st63 : own_Go p e below (T62.setTop (mkF m 45 #[.val (.ref ao), .val (.int u)] [(.int (st + (1 : Int32)))])) (s₁.setTop (entryFrame m #[(.ref ao), (.int u)] 2)) := fun t kt => st61 t (ls62 t kt)
    have hc64 : ¬ ((st + (1 : Int32)) = (0 : Int32)) := hst
    have st65 : own_Go p e below (T62.setTop (mkF m 61 #[.val (.ref ao), .val (.int u)] [])) (s₁.setTop (entryFrame m #[(.ref ao), (.int u)] 2)) := fun t kt => st63 t (by
      show Steps p.tables e below (T62.setTop (mkF m 45 #[.val (.ref ao), .val (.int u)] [(.int (st + (1 : Int32)))])) _
      refine XS.ifYes X62.here hx rfl (pc0 := 45) (pc' := 61) rfl (hb hby d3_45) rfl ((if0 _ _).trans (feq hc64).2) (by decide) (by decide) ?_
      show Steps p.tables e below (T62.setTop (mkF m 61 #[.val (.ref ao), .val (.int u)] [])) _
      exact kt)
    obtain ⟨fs, hr, hrun, hended, hW, hsame⟩ := X62.leave (v := none) (fun _ => rfl)
    refine ⟨_, _, st65 _ ?_, hrun, hended, _, _, rfl, ?_, ⟨_, rfl⟩, hW, hsame.mono (by decide) (by decide)⟩
    · exact X62.returnOut hx Bd.returns (hb hby d3_61) hr
    · show Q_rm_start Z ao u st n f k h0 n0 _ T62.heap _
      rw [e62]
      exact ⟨rfl, N54, z59, f55, g_ao, f56, bb, g_bb, ne_ab, f57, by
        unfold own_nl
        rw [if_neg hlt]
        exact f58.congr fun q hq => by simp [hq]⟩
def Q_rm_put (Z : State) (ao : Addr) (u : Int32) (r : Int32) (st : Int32) (n : Nat) (f : Nat → Int64) (k : Nat) (h0 : Heap) (n0 : Nat) (v : Option Value) (h : Heap) (L : List Loc) : Prop := v = none ∧ Fr n0 L ∧ n0 ≤ h.size ∧ own_M Z h n0 ao st n (fun q => if q = k then own_enc st r else f q)
set_option maxRecDepth 65536 in
set_option maxHeartbeats 40000000 in
theorem rm_put (l : Launch) (Z : State) (a0 : Array Value) (hw : ∀ d ∈ tables_1, d.before a0 Z = true) (ws : List Jvm.Cond) (ao : Addr) (u : Int32) (r : Int32) (st : Int32) (n : Nat) (f : Nat → Int64) (k : Nat) (h0 : Heap) (n0 : Nat) (Z0 : n0 ≤ h0.size) (M : own_M Z h0 n0 ao st n f) (hu : ¬ u < 0) (hk : u.toNatClampNeg = k) (hkn : k < n) :
    MetFree l (⟨"com/example/saturation/saturation/WalkMemo", "put", "(II)V"⟩ : MethodName) (head1 (Jvm.Cond.code (⟨"com/example/saturation/saturation/WalkMemo", "put", "(II)V"⟩ : MethodName) prog_65_method_4_code 3 none :: ws) ({ frames := 0, cells := 0, slots := 0, locals := 0 } : Room)) (fun a U => a = #[(.ref ao), (.int u), (.int r)] ∧ Z.Warmed39 U.vm ∧ U.heap = h0) (fun _ _ _ _ _ => True) (fun _ U o U' => ∃ v L, o = .returned v ∧ Q_rm_put Z ao u r st n f k h0 n0 v U'.heap L ∧ FrameEnd U o U' L ({ frames := 0, cells := 0, slots := 0, locals := 0 } : Room).cells ({ frames := 0, cells := 0, slots := 0, locals := 0 } : Room).slots) := by
  refine MetFree.of_bodySF (plainFor_of_name own_pn0) hisR ?_
  intro p e s m args below meth c s₁ Bd hml0 hP hK
  obtain ⟨rfl, hZ, hh⟩ := hP
  have hx := Bd.exec
  have hby := Bd.bytes
  have hml : c.maxLocals = 3 := hml0
  have hown : s.vm.findClass "com/example/saturation/saturation/WalkMemo" = some m.cls := findClass_of_methodNamed Bd.named
  have hnm := (name_of_methodNamed Bd.named Bd.method).1
  have X0 : Stand p l e ({ frames := 0, cells := 0, slots := 0, locals := 0 } : Room) s m #[(.ref ao), (.int u), (.int r)] below meth c s₁ [] 0 0 := Stand.of_body Bd
  have e0 : s₁.heap = h0 := by rw [← hh, Bd.state]; rfl
  have N0 := Fr.nil n0
  have st0 : own_Go p e below (s₁.setTop (mkF m 0 #[.val (.ref ao), .val (.int u), .val (.int r)] [])) (s₁.setTop (entryFrame m #[(.ref ao), (.int u), (.int r)] 3)) := fun t k => castTop (own_ef7_RII m ao u r) k
  obtain ⟨E_ao, g_ao, F_st, bb, g_bb, ne_ab, F_en, A_bb⟩ := M
  have st1 : own_Go p e below (s₁.setTop (mkF m 1 #[.val (.ref ao), .val (.int u), .val (.int r)] [(.ref ao)])) (s₁.setTop (entryFrame m #[(.ref ao), (.int u), (.int r)] 3)) := fun t kt => st0 t (by
    show Steps p.tables e below (s₁.setTop (mkF m 0 #[.val (.ref ao), .val (.int u), .val (.int r)] [])) _
    refine XS.aloadN X0.here hx rfl (hb hby d7_0) rfl rfl ?_
    show Steps p.tables e below (s₁.setTop (mkF m 1 #[.val (.ref ao), .val (.int u), .val (.int r)] [(.ref ao)])) _
    exact kt)
  obtain ⟨T2, X2, e2, ls2⟩ := getF X0 hx hZ hown (host := "") (Or.inl (hw _ (List.mem_of_getElem? (i := 11) rfl))) Via.refl e0 F_en (g := (mkF m 1 #[.val (.ref ao), .val (.int u), .val (.int r)] [(.ref ao)])) rfl rfl (hb hby d7_1)
  have st3 : own_Go p e below (T2.setTop (mkF m 4 #[.val (.ref ao), .val (.int u), .val (.int r)] [(.ref bb)])) (s₁.setTop (entryFrame m #[(.ref ao), (.int u), (.int r)] 3)) := fun t kt => st1 t (ls2 t kt)
  have st4 : own_Go p e below (T2.setTop (mkF m 6 #[.val (.ref ao), .val (.int u), .val (.int r)] [(.ref ao), (.int u), (.ref bb)])) (s₁.setTop (entryFrame m #[(.ref ao), (.int u), (.int r)] 3)) := fun t kt => st3 t (by
    show Steps p.tables e below (T2.setTop (mkF m 4 #[.val (.ref ao), .val (.int u), .val (.int r)] [(.ref bb)])) _
    refine XS.iloadN X2.here hx rfl (hb hby d7_4) rfl ?_
    show Steps p.tables e below (T2.setTop (mkF m 5 #[.val (.ref ao), .val (.int u), .val (.int r)] [(.int u), (.ref bb)])) _
    refine XS.aloadN X2.here hx rfl (hb hby d7_5) rfl rfl ?_
    show Steps p.tables e below (T2.setTop (mkF m 6 #[.val (.ref ao), .val (.int u), .val (.int r)] [(.ref ao), (.int u), (.ref bb)])) _
    exact kt)
  obtain ⟨T5, X5, e5, ls5⟩ := getF X2 hx hZ hown (host := "") (Or.inl (hw _ (List.mem_of_getElem? (i := 33) rfl))) Via.refl e2 F_st (g := (mkF m 6 #[.val (.ref ao), .val (.int u), .val (.int r)] [(.ref ao), (.int u), (.ref bb)])) rfl rfl (hb hby d7_6)
  have st6 : own_Go p e below (T5.setTop (mkF m 9 #[.val (.ref ao), .val (.int u), .val (.int r)] [(.int st), (.int u), (.ref bb)])) (s₁.setTop (entryFrame m #[(.ref ao), (.int u), (.int r)] 3)) := fun t kt => st4 t (ls5 t kt)
  have st7 : own_Go p e below (T5.setTop (mkF m 16 #[.val (.ref ao), .val (.int u), .val (.int r)] [(.long (((st.toInt64) <<< ((32 : Int32) &&& 0x3f).toInt64) ||| (r.toInt64))), (.int u), (.ref bb)])) (s₁.setTop (entryFrame m #[(.ref ao), (.int u), (.int r)] 3)) := fun t kt => st6 t (by
    show Steps p.tables e below (T5.setTop (mkF m 9 #[.val (.ref ao), .val (.int u), .val (.int r)] [(.int st), (.int u), (.ref bb)])) _
    refine XS.i2l X5.here hx rfl (hb hby d7_9) rfl ?_
    show Steps p.tables e below (T5.setTop (mkF m 10 #[.val (.ref ao), .val (.int u), .val (.int r)] [(.long (st.toInt64)), (.int u), (.ref bb)])) _
    refine XS.bipush X5.here hx rfl (hb hby d7_10) ?_
    show Steps p.tables e below (T5.setTop (mkF m 12 #[.val (.ref ao), .val (.int u), .val (.int r)] [(.int (32 : Int32)), (.long (st.toInt64)), (.int u), (.ref bb)])) _
    refine XS.lshl X5.here hx rfl (hb hby d7_12) rfl ?_
    show Steps p.tables e below (T5.setTop (mkF m 13 #[.val (.ref ao), .val (.int u), .val (.int r)] [(.long ((st.toInt64) <<< ((32 : Int32) &&& 0x3f).toInt64)), (.int u), (.ref bb)])) _
    refine XS.iloadN X5.here hx rfl (hb hby d7_13) rfl ?_
    show Steps p.tables e below (T5.setTop (mkF m 14 #[.val (.ref ao), .val (.int u), .val (.int r)] [(.int r), (.long ((st.toInt64) <<< ((32 : Int32) &&& 0x3f).toInt64)), (.int u), (.ref bb)])) _
    refine XS.i2l X5.here hx rfl (hb hby d7_14) rfl ?_
    show Steps p.tables e below (T5.setTop (mkF m 15 #[.val (.ref ao), .val (.int u), .val (.int r)] [(.long (r.toInt64)), (.long ((st.toInt64) <<< ((32 : Int32) &&& 0x3f).toInt64)), (.int u), (.ref bb)])) _
    refine XS.lor X5.here hx rfl (hb hby d7_15) rfl ?_
    show Steps p.tables e below (T5.setTop (mkF m 16 #[.val (.ref ao), .val (.int u), .val (.int r)] [(.long (((st.toInt64) <<< ((32 : Int32) &&& 0x3f).toInt64) ||| (r.toInt64))), (.int u), (.ref bb)])) _
    exact kt)
  obtain ⟨T8, h8, X8, e8, W8, B8, ls8⟩ := own_lastore X5 hx hZ e5 A_bb (j := u) (i := k) (hu) (hk) (hkn) (g := (mkF m 16 #[.val (.ref ao), .val (.int u), .val (.int r)] [(.long (((st.toInt64) <<< ((32 : Int32) &&& 0x3f).toInt64) ||| (r.toInt64))), (.int u), (.ref bb)])) rfl rfl (hb hby d7_16)
  have N8 := Fr.snoc X8 N0 g_bb
  have f9 := E_ao.wr W8
  have f10 := F_st.other W8 (Or.inl ne_ab)
  have f11 := F_en.other W8 (Or.inl ne_ab)
  have z12 := Nat.le_trans Z0 (Keep.of_wr W8).1
  have f13 := B8
  have st14 : own_Go p e below (T8.setTop (mkF m 17 #[.val (.ref ao), .val (.int u), .val (.int r)] [])) (s₁.setTop (entryFrame m #[(.ref ao), (.int u), (.int r)] 3)) := fun t kt => st7 t (ls8 t kt)
  obtain ⟨fs, hr, hrun, hended, hW, hsame⟩ := X8.leave (v := none) (fun _ => rfl)
  refine ⟨_, _, st14 _ ?_, hrun, hended, _, _, rfl, ?_, ⟨_, rfl⟩, hW, hsame.mono (by decide) (by decide)⟩
  · exact X8.returnOut hx Bd.returns (hb hby d7_17) hr
  · show Q_rm_put Z ao u r st n f k h0 n0 _ T8.heap _
    rw [e8]
    exact ⟨rfl, N8, z12, f9, g_ao, f10, bb, g_bb, ne_ab, f11, f13.congr fun q hq => by
      unfold own_enc
      by_cases z : q = k
      · simp [z]
      · simp [z]⟩
def Q_rm_get (Z : State) (ao : Addr) (u : Int32) (st : Int32) (n : Nat) (f : Nat → Int64) (k : Nat) (h0 : Heap) (n0 : Nat) (v : Option Value) (h : Heap) (L : List Loc) : Prop := v = some (.int (own_get st (f k))) ∧ Fr n0 L ∧ h = h0
set_option maxRecDepth 65536 in
set_option maxHeartbeats 40000000 in
theorem rm_get (l : Launch) (Z : State) (a0 : Array Value) (hw : ∀ d ∈ tables_1, d.before a0 Z = true) (ws : List Jvm.Cond) (ao : Addr) (u : Int32) (st : Int32) (n : Nat) (f : Nat → Int64) (k : Nat) (h0 : Heap) (n0 : Nat) (Z0 : n0 ≤ h0.size) (M : own_M Z h0 n0 ao st n f) (hu : ¬ u < 0) (hk : u.toNatClampNeg = k) (hkn : k < n) :
    MetFree l (⟨"com/example/saturation/saturation/WalkMemo", "get", "(I)I"⟩ : MethodName) (head1 (Jvm.Cond.code (⟨"com/example/saturation/saturation/WalkMemo", "get", "(I)I"⟩ : MethodName) prog_65_method_3_code 4 (some .int) :: ws) ({ frames := 0, cells := 0, slots := 0, locals := 0 } : Room)) (fun a U => a = #[(.ref ao), (.int u)] ∧ Z.Warmed39 U.vm ∧ U.heap = h0) (fun _ _ _ _ _ => True) (fun _ U o U' => ∃ v L, o = .returned v ∧ Q_rm_get Z ao u st n f k h0 n0 v U'.heap L ∧ FrameEnd U o U' L ({ frames := 0, cells := 0, slots := 0, locals := 0 } : Room).cells ({ frames := 0, cells := 0, slots := 0, locals := 0 } : Room).slots) := by
  refine MetFree.of_bodySF (plainFor_of_name own_pn0) hisR ?_
  intro p e s m args below meth c s₁ Bd hml0 hP hK
  obtain ⟨rfl, hZ, hh⟩ := hP
  have hx := Bd.exec
  have hby := Bd.bytes
  have hml : c.maxLocals = 4 := hml0
  have hown : s.vm.findClass "com/example/saturation/saturation/WalkMemo" = some m.cls := findClass_of_methodNamed Bd.named
  have hnm := (name_of_methodNamed Bd.named Bd.method).1
  have X0 : Stand p l e ({ frames := 0, cells := 0, slots := 0, locals := 0 } : Room) s m #[(.ref ao), (.int u)] below meth c s₁ [] 0 0 := Stand.of_body Bd
  have e0 : s₁.heap = h0 := by rw [← hh, Bd.state]; rfl
  have N0 := Fr.nil n0
  have st0 : own_Go p e below (s₁.setTop (mkF m 0 #[.val (.ref ao), .val (.int u), .unset, .unset] [])) (s₁.setTop (entryFrame m #[(.ref ao), (.int u)] 4)) := fun t k => castTop (own_ef8_RI m ao u) k
  obtain ⟨E_ao, g_ao, F_st, bb, g_bb, ne_ab, F_en, A_bb⟩ := M
  have st1 : own_Go p e below (s₁.setTop (mkF m 1 #[.val (.ref ao), .val (.int u), .unset, .unset] [(.ref ao)])) (s₁.setTop (entryFrame m #[(.ref ao), (.int u)] 4)) := fun t kt => st0 t (by
    show Steps p.tables e below (s₁.setTop (mkF m 0 #[.val (.ref ao), .val (.int u), .unset, .unset] [])) _
    refine XS.aloadN X0.here hx rfl (hb hby d8_0) rfl rfl ?_
    show Steps p.tables e below (s₁.setTop (mkF m 1 #[.val (.ref ao), .val (.int u), .unset, .unset] [(.ref ao)])) _
    exact kt)
  obtain ⟨T2, X2, e2, ls2⟩ := getF X0 hx hZ hown (host := "") (Or.inl (hw _ (List.mem_of_getElem? (i := 11) rfl))) Via.refl e0 F_en (g := (mkF m 1 #[.val (.ref ao), .val (.int u), .unset, .unset] [(.ref ao)])) rfl rfl (hb hby d8_1)
  have st3 : own_Go p e below (T2.setTop (mkF m 4 #[.val (.ref ao), .val (.int u), .unset, .unset] [(.ref bb)])) (s₁.setTop (entryFrame m #[(.ref ao), (.int u)] 4)) := fun t kt => st1 t (ls2 t kt)
  have st4 : own_Go p e below (T2.setTop (mkF m 5 #[.val (.ref ao), .val (.int u), .unset, .unset] [(.int u), (.ref bb)])) (s₁.setTop (entryFrame m #[(.ref ao), (.int u)] 4)) := fun t kt => st3 t (by
    show Steps p.tables e below (T2.setTop (mkF m 4 #[.val (.ref ao), .val (.int u), .unset, .unset] [(.ref bb)])) _
    refine XS.iloadN X2.here hx rfl (hb hby d8_4) rfl ?_
    show Steps p.tables e below (T2.setTop (mkF m 5 #[.val (.ref ao), .val (.int u), .unset, .unset] [(.int u), (.ref bb)])) _
    exact kt)
  have ls5 := own_laload X2 hx hZ e2 A_bb (j := u) (i := k) (hu) (hk) (hkn) (v := (.long (f k))) (rfl) (g := (mkF m 5 #[.val (.ref ao), .val (.int u), .unset, .unset] [(.int u), (.ref bb)])) rfl rfl (hb hby d8_5)
  have st6 : own_Go p e below (T2.setTop (mkF m 6 #[.val (.ref ao), .val (.int u), .unset, .unset] [(.long (f k))])) (s₁.setTop (entryFrame m #[(.ref ao), (.int u)] 4)) := fun t kt => st4 t (ls5 t kt)
  have st7 : own_Go p e below (T2.setTop (mkF m 13 #[.val (.ref ao), .val (.int u), .val (.long (f k)), .second] [(.ref ao), (.int ((((f k).toUInt64 >>> ((32 : Int32) &&& 0x3f).toInt64.toUInt64).toInt64).toInt32))])) (s₁.setTop (entryFrame m #[(.ref ao), (.int u)] 4)) := fun t kt => st6 t (by
    show Steps p.tables e below (T2.setTop (mkF m 6 #[.val (.ref ao), .val (.int u), .unset, .unset] [(.long (f k))])) _
    refine XS.lstoreN X2.here hx rfl (hb hby d8_6) rfl (l' := #[.val (.ref ao), .val (.int u), .val (.long (f k)), .second]) rfl ?_
    show Steps p.tables e below (T2.setTop (mkF m 7 #[.val (.ref ao), .val (.int u), .val (.long (f k)), .second] [])) _
    refine XS.lloadN X2.here hx rfl (hb hby d8_7) rfl ?_
    show Steps p.tables e below (T2.setTop (mkF m 8 #[.val (.ref ao), .val (.int u), .val (.long (f k)), .second] [(.long (f k))])) _
    refine XS.bipush X2.here hx rfl (hb hby d8_8) ?_
    show Steps p.tables e below (T2.setTop (mkF m 10 #[.val (.ref ao), .val (.int u), .val (.long (f k)), .second] [(.int (32 : Int32)), (.long (f k))])) _
    refine XS.lushr X2.here hx rfl (hb hby d8_10) rfl ?_
    show Steps p.tables e below (T2.setTop (mkF m 11 #[.val (.ref ao), .val (.int u), .val (.long (f k)), .second] [(.long (((f k).toUInt64 >>> ((32 : Int32) &&& 0x3f).toInt64.toUInt64).toInt64))])) _
    refine XS.l2i X2.here hx rfl (hb hby d8_11) rfl ?_
    show Steps p.tables e below (T2.setTop (mkF m 12 #[.val (.ref ao), .val (.int u), .val (.long (f k)), .second] [(.int ((((f k).toUInt64 >>> ((32 : Int32) &&& 0x3f).toInt64.toUInt64).toInt64).toInt32))])) _
    refine XS.aloadN X2.here hx rfl (hb hby d8_12) rfl rfl ?_
    show Steps p.tables e below (T2.setTop (mkF m 13 #[.val (.ref ao), .val (.int u), .val (.long (f k)), .second] [(.ref ao), (.int ((((f k).toUInt64 >>> ((32 : Int32) &&& 0x3f).toInt64.toUInt64).toInt64).toInt32))])) _
    exact kt)
  obtain ⟨T8, X8, e8, ls8⟩ := getF X2 hx hZ hown (host := "") (Or.inl (hw _ (List.mem_of_getElem? (i := 33) rfl))) Via.refl e2 F_st (g := (mkF m 13 #[.val (.ref ao), .val (.int u), .val (.long (f k)), .second] [(.ref ao), (.int ((((f k).toUInt64 >>> ((32 : Int32) &&& 0x3f).toInt64.toUInt64).toInt64).toInt32))])) rfl rfl (hb hby d8_13)
  have st9 : own_Go p e below (T8.setTop (mkF m 16 #[.val (.ref ao), .val (.int u), .val (.long (f k)), .second] [(.int st), (.int ((((f k).toUInt64 >>> ((32 : Int32) &&& 0x3f).toInt64.toUInt64).toInt64).toInt32))])) (s₁.setTop (entryFrame m #[(.ref ao), (.int u)] 4)) := fun t kt => st7 t (ls8 t kt)
  by_cases q1 : ((((f k).toUInt64 >>> ((32 : Int32) &&& 0x3f).toInt64.toUInt64).toInt64).toInt32) = st
  · have st10 : own_Go p e below (T8.setTop (mkF m 25 #[.val (.ref ao), .val (.int u), .val (.long (f k)), .second] [(.int ((f k).toInt32))])) (s₁.setTop (entryFrame m #[(.ref ao), (.int u)] 4)) := fun t kt => st9 t (by
      show Steps p.tables e below (T8.setTop (mkF m 16 #[.val (.ref ao), .val (.int u), .val (.long (f k)), .second] [(.int st), (.int ((((f k).toUInt64 >>> ((32 : Int32) &&& 0x3f).toInt64.toUInt64).toInt64).toInt32))])) _
      refine XS.icmpNo X8.here hx rfl (hb hby d8_16) rfl (teq q1).2 ?_
      show Steps p.tables e below (T8.setTop (mkF m 19 #[.val (.ref ao), .val (.int u), .val (.long (f k)), .second] [])) _
      refine XS.lloadN X8.here hx rfl (hb hby d8_19) rfl ?_
      show Steps p.tables e below (T8.setTop (mkF m 20 #[.val (.ref ao), .val (.int u), .val (.long (f k)), .second] [(.long (f k))])) _
      refine XS.l2i X8.here hx rfl (hb hby d8_20) rfl ?_
      show Steps p.tables e below (T8.setTop (mkF m 21 #[.val (.ref ao), .val (.int u), .val (.long (f k)), .second] [(.int ((f k).toInt32))])) _
      refine XS.goto X8.here hx rfl (pc0 := 21) (pc' := 25) rfl (hb hby d8_21) (by decide) (by decide) ?_
      show Steps p.tables e below (T8.setTop (mkF m 25 #[.val (.ref ao), .val (.int u), .val (.long (f k)), .second] [(.int ((f k).toInt32))])) _
      exact kt)
    obtain ⟨fs, hr, hrun, hended, hW, hsame⟩ := X8.leave (v := (some (.int ((f k).toInt32)))) (fun h => by rw [Bd.returns] at h; cases h)
    refine ⟨_, _, st10 _ ?_, hrun, hended, _, _, rfl, ?_, ⟨_, rfl⟩, hW, hsame.mono (by decide) (by decide)⟩
    · exact retOut X8 hx Bd.returns rfl (Or.inl ⟨rfl, Or.inl rfl, _, rfl⟩) (hb hby d8_25) hr
    · show Q_rm_get Z ao u st n f k h0 n0 _ T8.heap _
      rw [e8]
      exact ⟨by unfold own_get; rw [if_pos q1], N0, rfl⟩
  · have st11 : own_Go p e below (T8.setTop (mkF m 25 #[.val (.ref ao), .val (.int u), .val (.long (f k)), .second] [(.int (-1 : Int32))])) (s₁.setTop (entryFrame m #[(.ref ao), (.int u)] 4)) := fun t kt => st9 t (by
      show Steps p.tables e below (T8.setTop (mkF m 16 #[.val (.ref ao), .val (.int u), .val (.long (f k)), .second] [(.int st), (.int ((((f k).toUInt64 >>> ((32 : Int32) &&& 0x3f).toInt64.toUInt64).toInt64).toInt32))])) _
      refine XS.icmpYes X8.here hx rfl (pc0 := 16) (pc' := 24) rfl (hb hby d8_16) rfl (feq q1).2 (by decide) (by decide) ?_
      show Steps p.tables e below (T8.setTop (mkF m 24 #[.val (.ref ao), .val (.int u), .val (.long (f k)), .second] [])) _
      refine XS.iconst X8.here hx rfl (hb hby d8_24) ?_
      show Steps p.tables e below (T8.setTop (mkF m 25 #[.val (.ref ao), .val (.int u), .val (.long (f k)), .second] [(.int (-1 : Int32))])) _
      exact kt)
    obtain ⟨fs, hr, hrun, hended, hW, hsame⟩ := X8.leave (v := (some (.int (-1 : Int32)))) (fun h => by rw [Bd.returns] at h; cases h)
    refine ⟨_, _, st11 _ ?_, hrun, hended, _, _, rfl, ?_, ⟨_, rfl⟩, hW, hsame.mono (by decide) (by decide)⟩
    · exact retOut X8 hx Bd.returns rfl (Or.inl ⟨rfl, Or.inl rfl, _, rfl⟩) (hb hby d8_25) hr
    · show Q_rm_get Z ao u st n f k h0 n0 _ T8.heap _
      rw [e8]
      exact ⟨by unfold own_get; rw [if_neg q1], N0, rfl⟩
def Q_rm_exp (Z : State) (uc : Int32) (ua : Int32) (ub : Int32) (ure : Int32) (upu : Int32) (ur1 : Int32) (ur2 : Int32) (h0 : Heap) (n0 : Nat) (v : Option Value) (h : Heap) (L : List Loc) : Prop := v = some (.int (own_exp uc ua ub ure upu ur1 ur2)) ∧ Fr n0 L ∧ h = h0
set_option maxRecDepth 65536 in
set_option maxHeartbeats 40000000 in
theorem rm_exp (l : Launch) (Z : State) (a0 : Array Value) (hw : ∀ d ∈ tables_1, d.before a0 Z = true) (ws : List Jvm.Cond) (uc : Int32) (ua : Int32) (ub : Int32) (ure : Int32) (upu : Int32) (ur1 : Int32) (ur2 : Int32) (h0 : Heap) (n0 : Nat) (Z0 : n0 ≤ h0.size) :
    MetFree l (⟨"com/example/saturation/saturation/WalkMemoGetPinLaw", "expect", "(IIIZZII)I"⟩ : MethodName) (head1 (Jvm.Cond.code (⟨"com/example/saturation/saturation/WalkMemoGetPinLaw", "expect", "(IIIZZII)I"⟩ : MethodName) method_2_code 7 (some .int) :: ws) ({ frames := 0, cells := 0, slots := 0, locals := 0 } : Room)) (fun a U => a = #[(.int uc), (.int ua), (.int ub), (.int ure), (.int upu), (.int ur1), (.int ur2)] ∧ Z.Warmed39 U.vm ∧ U.heap = h0) (fun _ _ _ _ _ => True) (fun _ U o U' => ∃ v L, o = .returned v ∧ Q_rm_exp Z uc ua ub ure upu ur1 ur2 h0 n0 v U'.heap L ∧ FrameEnd U o U' L ({ frames := 0, cells := 0, slots := 0, locals := 0 } : Room).cells ({ frames := 0, cells := 0, slots := 0, locals := 0 } : Room).slots) := by
  refine MetFree.of_bodySF (plainFor_of_name own_pn2) hisR ?_
  intro p e s m args below meth c s₁ Bd hml0 hP hK
  obtain ⟨rfl, hZ, hh⟩ := hP
  have hx := Bd.exec
  have hby := Bd.bytes
  have hml : c.maxLocals = 7 := hml0
  have hown : s.vm.findClass "com/example/saturation/saturation/WalkMemoGetPinLaw" = some m.cls := findClass_of_methodNamed Bd.named
  have hnm := (name_of_methodNamed Bd.named Bd.method).1
  have X0 : Stand p l e ({ frames := 0, cells := 0, slots := 0, locals := 0 } : Room) s m #[(.int uc), (.int ua), (.int ub), (.int ure), (.int upu), (.int ur1), (.int ur2)] below meth c s₁ [] 0 0 := Stand.of_body Bd
  have e0 : s₁.heap = h0 := by rw [← hh, Bd.state]; rfl
  have N0 := Fr.nil n0
  have st0 : own_Go p e below (s₁.setTop (mkF m 0 #[.val (.int uc), .val (.int ua), .val (.int ub), .val (.int ure), .val (.int upu), .val (.int ur1), .val (.int ur2)] [])) (s₁.setTop (entryFrame m #[(.int uc), (.int ua), (.int ub), (.int ure), (.int upu), (.int ur1), (.int ur2)] 7)) := fun t k => castTop (own_ef9_IIIIIII m uc ua ub ure upu ur1 ur2) k
  have st1 : own_Go p e below (s₁.setTop (mkF m 2 #[.val (.int uc), .val (.int ua), .val (.int ub), .val (.int ure), .val (.int upu), .val (.int ur1), .val (.int ur2)] [(.int upu)])) (s₁.setTop (entryFrame m #[(.int uc), (.int ua), (.int ub), (.int ure), (.int upu), (.int ur1), (.int ur2)] 7)) := fun t kt => st0 t (by
    show Steps p.tables e below (s₁.setTop (mkF m 0 #[.val (.int uc), .val (.int ua), .val (.int ub), .val (.int ure), .val (.int upu), .val (.int ur1), .val (.int ur2)] [])) _
    refine XS.iload X0.here hx rfl (hb hby d9_0) rfl ?_
    show Steps p.tables e below (s₁.setTop (mkF m 2 #[.val (.int uc), .val (.int ua), .val (.int ub), .val (.int ure), .val (.int upu), .val (.int ur1), .val (.int ur2)] [(.int upu)])) _
    exact kt)
  by_cases q1 : upu = (0 : Int32)
  · have st2 : own_Go p e below (s₁.setTop (mkF m 14 #[.val (.int uc), .val (.int ua), .val (.int ub), .val (.int ure), .val (.int upu), .val (.int ur1), .val (.int ur2)] [(.int ure)])) (s₁.setTop (entryFrame m #[(.int uc), (.int ua), (.int ub), (.int ure), (.int upu), (.int ur1), (.int ur2)] 7)) := fun t kt => st1 t (by
      show Steps p.tables e below (s₁.setTop (mkF m 2 #[.val (.int uc), .val (.int ua), .val (.int ub), .val (.int ure), .val (.int upu), .val (.int ur1), .val (.int ur2)] [(.int upu)])) _
      refine XS.ifYes X0.here hx rfl (pc0 := 2) (pc' := 13) rfl (hb hby d9_2) rfl ((if0 _ _).trans (teq q1).1) (by decide) (by decide) ?_
      show Steps p.tables e below (s₁.setTop (mkF m 13 #[.val (.int uc), .val (.int ua), .val (.int ub), .val (.int ure), .val (.int upu), .val (.int ur1), .val (.int ur2)] [])) _
      refine XS.iloadN X0.here hx rfl (hb hby d9_13) rfl ?_
      show Steps p.tables e below (s₁.setTop (mkF m 14 #[.val (.int uc), .val (.int ua), .val (.int ub), .val (.int ure), .val (.int upu), .val (.int ur1), .val (.int ur2)] [(.int ure)])) _
      exact kt)
    by_cases q3 : ure = (0 : Int32)
    · have st3 : own_Go p e below (s₁.setTop (mkF m 19 #[.val (.int uc), .val (.int ua), .val (.int ub), .val (.int ure), .val (.int upu), .val (.int ur1), .val (.int ur2)] [(.int ua), (.int uc)])) (s₁.setTop (entryFrame m #[(.int uc), (.int ua), (.int ub), (.int ure), (.int upu), (.int ur1), (.int ur2)] 7)) := fun t kt => st2 t (by
        show Steps p.tables e below (s₁.setTop (mkF m 14 #[.val (.int uc), .val (.int ua), .val (.int ub), .val (.int ure), .val (.int upu), .val (.int ur1), .val (.int ur2)] [(.int ure)])) _
        refine XS.ifNo X0.here hx rfl (hb hby d9_14) rfl ((if0 _ _).trans (teq q3).2) ?_
        show Steps p.tables e below (s₁.setTop (mkF m 17 #[.val (.int uc), .val (.int ua), .val (.int ub), .val (.int ure), .val (.int upu), .val (.int ur1), .val (.int ur2)] [])) _
        refine XS.iloadN X0.here hx rfl (hb hby d9_17) rfl ?_
        show Steps p.tables e below (s₁.setTop (mkF m 18 #[.val (.int uc), .val (.int ua), .val (.int ub), .val (.int ure), .val (.int upu), .val (.int ur1), .val (.int ur2)] [(.int uc)])) _
        refine XS.iloadN X0.here hx rfl (hb hby d9_18) rfl ?_
        show Steps p.tables e below (s₁.setTop (mkF m 19 #[.val (.int uc), .val (.int ua), .val (.int ub), .val (.int ure), .val (.int upu), .val (.int ur1), .val (.int ur2)] [(.int ua), (.int uc)])) _
        exact kt)
      by_cases q4 : uc = ua
      · have st4 : own_Go p e below (s₁.setTop (mkF m 24 #[.val (.int uc), .val (.int ua), .val (.int ub), .val (.int ure), .val (.int upu), .val (.int ur1), .val (.int ur2)] [(.int ur1)])) (s₁.setTop (entryFrame m #[(.int uc), (.int ua), (.int ub), (.int ure), (.int upu), (.int ur1), (.int ur2)] 7)) := fun t kt => st3 t (by
          show Steps p.tables e below (s₁.setTop (mkF m 19 #[.val (.int uc), .val (.int ua), .val (.int ub), .val (.int ure), .val (.int upu), .val (.int ur1), .val (.int ur2)] [(.int ua), (.int uc)])) _
          refine XS.icmpNo X0.here hx rfl (hb hby d9_19) rfl (teq q4).2 ?_
          show Steps p.tables e below (s₁.setTop (mkF m 22 #[.val (.int uc), .val (.int ua), .val (.int ub), .val (.int ure), .val (.int upu), .val (.int ur1), .val (.int ur2)] [])) _
          refine XS.iload X0.here hx rfl (hb hby d9_22) rfl ?_
          show Steps p.tables e below (s₁.setTop (mkF m 24 #[.val (.int uc), .val (.int ua), .val (.int ub), .val (.int ure), .val (.int upu), .val (.int ur1), .val (.int ur2)] [(.int ur1)])) _
          exact kt)
        obtain ⟨fs, hr, hrun, hended, hW, hsame⟩ := X0.leave (v := (some (.int ur1))) (fun h => by rw [Bd.returns] at h; cases h)
        refine ⟨_, _, st4 _ ?_, hrun, hended, _, _, rfl, ?_, ⟨_, rfl⟩, hW, hsame.mono (by decide) (by decide)⟩
        · exact retOut X0 hx Bd.returns rfl (Or.inl ⟨rfl, Or.inl rfl, _, rfl⟩) (hb hby d9_24) hr
        · show Q_rm_exp Z uc ua ub ure upu ur1 ur2 h0 n0 _ s₁.heap _
          rw [e0]
          exact ⟨by unfold own_exp own_e2; rw [if_pos q1, if_pos q3, if_pos q4], N0, rfl⟩
      · have st5 : own_Go p e below (s₁.setTop (mkF m 26 #[.val (.int uc), .val (.int ua), .val (.int ub), .val (.int ure), .val (.int upu), .val (.int ur1), .val (.int ur2)] [(.int (-1 : Int32))])) (s₁.setTop (entryFrame m #[(.int uc), (.int ua), (.int ub), (.int ure), (.int upu), (.int ur1), (.int ur2)] 7)) := fun t kt => st3 t (by
          show Steps p.tables e below (s₁.setTop (mkF m 19 #[.val (.int uc), .val (.int ua), .val (.int ub), .val (.int ure), .val (.int upu), .val (.int ur1), .val (.int ur2)] [(.int ua), (.int uc)])) _
          refine XS.icmpYes X0.here hx rfl (pc0 := 19) (pc' := 25) rfl (hb hby d9_19) rfl (feq q4).2 (by decide) (by decide) ?_
          show Steps p.tables e below (s₁.setTop (mkF m 25 #[.val (.int uc), .val (.int ua), .val (.int ub), .val (.int ure), .val (.int upu), .val (.int ur1), .val (.int ur2)] [])) _
          refine XS.iconst X0.here hx rfl (hb hby d9_25) ?_
          show Steps p.tables e below (s₁.setTop (mkF m 26 #[.val (.int uc), .val (.int ua), .val (.int ub), .val (.int ure), .val (.int upu), .val (.int ur1), .val (.int ur2)] [(.int (-1 : Int32))])) _
          exact kt)
        obtain ⟨fs, hr, hrun, hended, hW, hsame⟩ := X0.leave (v := (some (.int (-1 : Int32)))) (fun h => by rw [Bd.returns] at h; cases h)
        refine ⟨_, _, st5 _ ?_, hrun, hended, _, _, rfl, ?_, ⟨_, rfl⟩, hW, hsame.mono (by decide) (by decide)⟩
        · exact retOut X0 hx Bd.returns rfl (Or.inl ⟨rfl, Or.inl rfl, _, rfl⟩) (hb hby d9_26) hr
        · show Q_rm_exp Z uc ua ub ure upu ur1 ur2 h0 n0 _ s₁.heap _
          rw [e0]
          exact ⟨by unfold own_exp own_e2; rw [if_pos q1, if_pos q3, if_neg q4], N0, rfl⟩
    · have st6 : own_Go p e below (s₁.setTop (mkF m 26 #[.val (.int uc), .val (.int ua), .val (.int ub), .val (.int ure), .val (.int upu), .val (.int ur1), .val (.int ur2)] [(.int (-1 : Int32))])) (s₁.setTop (entryFrame m #[(.int uc), (.int ua), (.int ub), (.int ure), (.int upu), (.int ur1), (.int ur2)] 7)) := fun t kt => st2 t (by
        show Steps p.tables e below (s₁.setTop (mkF m 14 #[.val (.int uc), .val (.int ua), .val (.int ub), .val (.int ure), .val (.int upu), .val (.int ur1), .val (.int ur2)] [(.int ure)])) _
        refine XS.ifYes X0.here hx rfl (pc0 := 14) (pc' := 25) rfl (hb hby d9_14) rfl ((if0 _ _).trans (feq q3).2) (by decide) (by decide) ?_
        show Steps p.tables e below (s₁.setTop (mkF m 25 #[.val (.int uc), .val (.int ua), .val (.int ub), .val (.int ure), .val (.int upu), .val (.int ur1), .val (.int ur2)] [])) _
        refine XS.iconst X0.here hx rfl (hb hby d9_25) ?_
        show Steps p.tables e below (s₁.setTop (mkF m 26 #[.val (.int uc), .val (.int ua), .val (.int ub), .val (.int ure), .val (.int upu), .val (.int ur1), .val (.int ur2)] [(.int (-1 : Int32))])) _
        exact kt)
      obtain ⟨fs, hr, hrun, hended, hW, hsame⟩ := X0.leave (v := (some (.int (-1 : Int32)))) (fun h => by rw [Bd.returns] at h; cases h)
      refine ⟨_, _, st6 _ ?_, hrun, hended, _, _, rfl, ?_, ⟨_, rfl⟩, hW, hsame.mono (by decide) (by decide)⟩
      · exact retOut X0 hx Bd.returns rfl (Or.inl ⟨rfl, Or.inl rfl, _, rfl⟩) (hb hby d9_26) hr
      · show Q_rm_exp Z uc ua ub ure upu ur1 ur2 h0 n0 _ s₁.heap _
        rw [e0]
        exact ⟨by unfold own_exp own_e2; rw [if_pos q1, if_neg q3], N0, rfl⟩
  · have st7 : own_Go p e below (s₁.setTop (mkF m 7 #[.val (.int uc), .val (.int ua), .val (.int ub), .val (.int ure), .val (.int upu), .val (.int ur1), .val (.int ur2)] [(.int ub), (.int uc)])) (s₁.setTop (entryFrame m #[(.int uc), (.int ua), (.int ub), (.int ure), (.int upu), (.int ur1), (.int ur2)] 7)) := fun t kt => st1 t (by
      show Steps p.tables e below (s₁.setTop (mkF m 2 #[.val (.int uc), .val (.int ua), .val (.int ub), .val (.int ure), .val (.int upu), .val (.int ur1), .val (.int ur2)] [(.int upu)])) _
      refine XS.ifNo X0.here hx rfl (hb hby d9_2) rfl ((if0 _ _).trans (feq q1).1) ?_
      show Steps p.tables e below (s₁.setTop (mkF m 5 #[.val (.int uc), .val (.int ua), .val (.int ub), .val (.int ure), .val (.int upu), .val (.int ur1), .val (.int ur2)] [])) _
      refine XS.iloadN X0.here hx rfl (hb hby d9_5) rfl ?_
      show Steps p.tables e below (s₁.setTop (mkF m 6 #[.val (.int uc), .val (.int ua), .val (.int ub), .val (.int ure), .val (.int upu), .val (.int ur1), .val (.int ur2)] [(.int uc)])) _
      refine XS.iloadN X0.here hx rfl (hb hby d9_6) rfl ?_
      show Steps p.tables e below (s₁.setTop (mkF m 7 #[.val (.int uc), .val (.int ua), .val (.int ub), .val (.int ure), .val (.int upu), .val (.int ur1), .val (.int ur2)] [(.int ub), (.int uc)])) _
      exact kt)
    by_cases q2 : uc = ub
    · have st8 : own_Go p e below (s₁.setTop (mkF m 12 #[.val (.int uc), .val (.int ua), .val (.int ub), .val (.int ure), .val (.int upu), .val (.int ur1), .val (.int ur2)] [(.int ur2)])) (s₁.setTop (entryFrame m #[(.int uc), (.int ua), (.int ub), (.int ure), (.int upu), (.int ur1), (.int ur2)] 7)) := fun t kt => st7 t (by
        show Steps p.tables e below (s₁.setTop (mkF m 7 #[.val (.int uc), .val (.int ua), .val (.int ub), .val (.int ure), .val (.int upu), .val (.int ur1), .val (.int ur2)] [(.int ub), (.int uc)])) _
        refine XS.icmpNo X0.here hx rfl (hb hby d9_7) rfl (teq q2).2 ?_
        show Steps p.tables e below (s₁.setTop (mkF m 10 #[.val (.int uc), .val (.int ua), .val (.int ub), .val (.int ure), .val (.int upu), .val (.int ur1), .val (.int ur2)] [])) _
        refine XS.iload X0.here hx rfl (hb hby d9_10) rfl ?_
        show Steps p.tables e below (s₁.setTop (mkF m 12 #[.val (.int uc), .val (.int ua), .val (.int ub), .val (.int ure), .val (.int upu), .val (.int ur1), .val (.int ur2)] [(.int ur2)])) _
        exact kt)
      obtain ⟨fs, hr, hrun, hended, hW, hsame⟩ := X0.leave (v := (some (.int ur2))) (fun h => by rw [Bd.returns] at h; cases h)
      refine ⟨_, _, st8 _ ?_, hrun, hended, _, _, rfl, ?_, ⟨_, rfl⟩, hW, hsame.mono (by decide) (by decide)⟩
      · exact retOut X0 hx Bd.returns rfl (Or.inl ⟨rfl, Or.inl rfl, _, rfl⟩) (hb hby d9_12) hr
      · show Q_rm_exp Z uc ua ub ure upu ur1 ur2 h0 n0 _ s₁.heap _
        rw [e0]
        exact ⟨by unfold own_exp; rw [if_neg q1, if_pos q2], N0, rfl⟩
    · have st9 : own_Go p e below (s₁.setTop (mkF m 14 #[.val (.int uc), .val (.int ua), .val (.int ub), .val (.int ure), .val (.int upu), .val (.int ur1), .val (.int ur2)] [(.int ure)])) (s₁.setTop (entryFrame m #[(.int uc), (.int ua), (.int ub), (.int ure), (.int upu), (.int ur1), (.int ur2)] 7)) := fun t kt => st7 t (by
        show Steps p.tables e below (s₁.setTop (mkF m 7 #[.val (.int uc), .val (.int ua), .val (.int ub), .val (.int ure), .val (.int upu), .val (.int ur1), .val (.int ur2)] [(.int ub), (.int uc)])) _
        refine XS.icmpYes X0.here hx rfl (pc0 := 7) (pc' := 13) rfl (hb hby d9_7) rfl (feq q2).2 (by decide) (by decide) ?_
        show Steps p.tables e below (s₁.setTop (mkF m 13 #[.val (.int uc), .val (.int ua), .val (.int ub), .val (.int ure), .val (.int upu), .val (.int ur1), .val (.int ur2)] [])) _
        refine XS.iloadN X0.here hx rfl (hb hby d9_13) rfl ?_
        show Steps p.tables e below (s₁.setTop (mkF m 14 #[.val (.int uc), .val (.int ua), .val (.int ub), .val (.int ure), .val (.int upu), .val (.int ur1), .val (.int ur2)] [(.int ure)])) _
        exact kt)
      by_cases q3 : ure = (0 : Int32)
      · have st10 : own_Go p e below (s₁.setTop (mkF m 19 #[.val (.int uc), .val (.int ua), .val (.int ub), .val (.int ure), .val (.int upu), .val (.int ur1), .val (.int ur2)] [(.int ua), (.int uc)])) (s₁.setTop (entryFrame m #[(.int uc), (.int ua), (.int ub), (.int ure), (.int upu), (.int ur1), (.int ur2)] 7)) := fun t kt => st9 t (by
          show Steps p.tables e below (s₁.setTop (mkF m 14 #[.val (.int uc), .val (.int ua), .val (.int ub), .val (.int ure), .val (.int upu), .val (.int ur1), .val (.int ur2)] [(.int ure)])) _
          refine XS.ifNo X0.here hx rfl (hb hby d9_14) rfl ((if0 _ _).trans (teq q3).2) ?_
          show Steps p.tables e below (s₁.setTop (mkF m 17 #[.val (.int uc), .val (.int ua), .val (.int ub), .val (.int ure), .val (.int upu), .val (.int ur1), .val (.int ur2)] [])) _
          refine XS.iloadN X0.here hx rfl (hb hby d9_17) rfl ?_
          show Steps p.tables e below (s₁.setTop (mkF m 18 #[.val (.int uc), .val (.int ua), .val (.int ub), .val (.int ure), .val (.int upu), .val (.int ur1), .val (.int ur2)] [(.int uc)])) _
          refine XS.iloadN X0.here hx rfl (hb hby d9_18) rfl ?_
          show Steps p.tables e below (s₁.setTop (mkF m 19 #[.val (.int uc), .val (.int ua), .val (.int ub), .val (.int ure), .val (.int upu), .val (.int ur1), .val (.int ur2)] [(.int ua), (.int uc)])) _
          exact kt)
        by_cases q4 : uc = ua
        · have st11 : own_Go p e below (s₁.setTop (mkF m 24 #[.val (.int uc), .val (.int ua), .val (.int ub), .val (.int ure), .val (.int upu), .val (.int ur1), .val (.int ur2)] [(.int ur1)])) (s₁.setTop (entryFrame m #[(.int uc), (.int ua), (.int ub), (.int ure), (.int upu), (.int ur1), (.int ur2)] 7)) := fun t kt => st10 t (by
            show Steps p.tables e below (s₁.setTop (mkF m 19 #[.val (.int uc), .val (.int ua), .val (.int ub), .val (.int ure), .val (.int upu), .val (.int ur1), .val (.int ur2)] [(.int ua), (.int uc)])) _
            refine XS.icmpNo X0.here hx rfl (hb hby d9_19) rfl (teq q4).2 ?_
            show Steps p.tables e below (s₁.setTop (mkF m 22 #[.val (.int uc), .val (.int ua), .val (.int ub), .val (.int ure), .val (.int upu), .val (.int ur1), .val (.int ur2)] [])) _
            refine XS.iload X0.here hx rfl (hb hby d9_22) rfl ?_
            show Steps p.tables e below (s₁.setTop (mkF m 24 #[.val (.int uc), .val (.int ua), .val (.int ub), .val (.int ure), .val (.int upu), .val (.int ur1), .val (.int ur2)] [(.int ur1)])) _
            exact kt)
          obtain ⟨fs, hr, hrun, hended, hW, hsame⟩ := X0.leave (v := (some (.int ur1))) (fun h => by rw [Bd.returns] at h; cases h)
          refine ⟨_, _, st11 _ ?_, hrun, hended, _, _, rfl, ?_, ⟨_, rfl⟩, hW, hsame.mono (by decide) (by decide)⟩
          · exact retOut X0 hx Bd.returns rfl (Or.inl ⟨rfl, Or.inl rfl, _, rfl⟩) (hb hby d9_24) hr
          · show Q_rm_exp Z uc ua ub ure upu ur1 ur2 h0 n0 _ s₁.heap _
            rw [e0]
            exact ⟨by unfold own_exp own_e2; rw [if_neg q1, if_neg q2, if_pos q3, if_pos q4], N0, rfl⟩
        · have st12 : own_Go p e below (s₁.setTop (mkF m 26 #[.val (.int uc), .val (.int ua), .val (.int ub), .val (.int ure), .val (.int upu), .val (.int ur1), .val (.int ur2)] [(.int (-1 : Int32))])) (s₁.setTop (entryFrame m #[(.int uc), (.int ua), (.int ub), (.int ure), (.int upu), (.int ur1), (.int ur2)] 7)) := fun t kt => st10 t (by
            show Steps p.tables e below (s₁.setTop (mkF m 19 #[.val (.int uc), .val (.int ua), .val (.int ub), .val (.int ure), .val (.int upu), .val (.int ur1), .val (.int ur2)] [(.int ua), (.int uc)])) _
            refine XS.icmpYes X0.here hx rfl (pc0 := 19) (pc' := 25) rfl (hb hby d9_19) rfl (feq q4).2 (by decide) (by decide) ?_
            show Steps p.tables e below (s₁.setTop (mkF m 25 #[.val (.int uc), .val (.int ua), .val (.int ub), .val (.int ure), .val (.int upu), .val (.int ur1), .val (.int ur2)] [])) _
            refine XS.iconst X0.here hx rfl (hb hby d9_25) ?_
            show Steps p.tables e below (s₁.setTop (mkF m 26 #[.val (.int uc), .val (.int ua), .val (.int ub), .val (.int ure), .val (.int upu), .val (.int ur1), .val (.int ur2)] [(.int (-1 : Int32))])) _
            exact kt)
          obtain ⟨fs, hr, hrun, hended, hW, hsame⟩ := X0.leave (v := (some (.int (-1 : Int32)))) (fun h => by rw [Bd.returns] at h; cases h)
          refine ⟨_, _, st12 _ ?_, hrun, hended, _, _, rfl, ?_, ⟨_, rfl⟩, hW, hsame.mono (by decide) (by decide)⟩
          · exact retOut X0 hx Bd.returns rfl (Or.inl ⟨rfl, Or.inl rfl, _, rfl⟩) (hb hby d9_26) hr
          · show Q_rm_exp Z uc ua ub ure upu ur1 ur2 h0 n0 _ s₁.heap _
            rw [e0]
            exact ⟨by unfold own_exp own_e2; rw [if_neg q1, if_neg q2, if_pos q3, if_neg q4], N0, rfl⟩
      · have st13 : own_Go p e below (s₁.setTop (mkF m 26 #[.val (.int uc), .val (.int ua), .val (.int ub), .val (.int ure), .val (.int upu), .val (.int ur1), .val (.int ur2)] [(.int (-1 : Int32))])) (s₁.setTop (entryFrame m #[(.int uc), (.int ua), (.int ub), (.int ure), (.int upu), (.int ur1), (.int ur2)] 7)) := fun t kt => st9 t (by
          show Steps p.tables e below (s₁.setTop (mkF m 14 #[.val (.int uc), .val (.int ua), .val (.int ub), .val (.int ure), .val (.int upu), .val (.int ur1), .val (.int ur2)] [(.int ure)])) _
          refine XS.ifYes X0.here hx rfl (pc0 := 14) (pc' := 25) rfl (hb hby d9_14) rfl ((if0 _ _).trans (feq q3).2) (by decide) (by decide) ?_
          show Steps p.tables e below (s₁.setTop (mkF m 25 #[.val (.int uc), .val (.int ua), .val (.int ub), .val (.int ure), .val (.int upu), .val (.int ur1), .val (.int ur2)] [])) _
          refine XS.iconst X0.here hx rfl (hb hby d9_25) ?_
          show Steps p.tables e below (s₁.setTop (mkF m 26 #[.val (.int uc), .val (.int ua), .val (.int ub), .val (.int ure), .val (.int upu), .val (.int ur1), .val (.int ur2)] [(.int (-1 : Int32))])) _
          exact kt)
        obtain ⟨fs, hr, hrun, hended, hW, hsame⟩ := X0.leave (v := (some (.int (-1 : Int32)))) (fun h => by rw [Bd.returns] at h; cases h)
        refine ⟨_, _, st13 _ ?_, hrun, hended, _, _, rfl, ?_, ⟨_, rfl⟩, hW, hsame.mono (by decide) (by decide)⟩
        · exact retOut X0 hx Bd.returns rfl (Or.inl ⟨rfl, Or.inl rfl, _, rfl⟩) (hb hby d9_26) hr
        · show Q_rm_exp Z uc ua ub ure upu ur1 ur2 h0 n0 _ s₁.heap _
          rw [e0]
          exact ⟨by unfold own_exp own_e2; rw [if_neg q1, if_neg q2, if_neg q3], N0, rfl⟩
def Q_rm_law (Z : State) (x0 : Int32) (xpa : Int32) (xpb : Int32) (xpc : Int32) (xr1 : Int32) (xr2 : Int32) (h0 : Heap) (n0 : Nat) (v : Option Value) (h : Heap) (L : List Loc) : Prop := v = some (.int 1) ∧ Fr n0 L
set_option maxRecDepth 65536 in
set_option maxHeartbeats 40000000 in
theorem rm_law (l : Launch) (Z : State) (a0 : Array Value) (hw : ∀ d ∈ tables_1, d.before a0 Z = true) (ws : List Jvm.Cond) (x0 : Int32) (xpa : Int32) (xpb : Int32) (xpc : Int32) (xr1 : Int32) (xr2 : Int32) (h0 : Heap) (n0 : Nat) (Z0 : n0 ≤ h0.size) :
    MetFree l x (head1 (Jvm.Cond.code x code maxLocals ret :: ws) room_1) (fun a U => a = #[(.int x0), (.int xpa), (.int xpb), (.int xpc), (.int xr1), (.int xr2)] ∧ Z.Warmed39 U.vm ∧ U.heap = h0) (fun _ _ _ _ _ => True) (fun _ U o U' => ∃ v L, o = .returned v ∧ Q_rm_law Z x0 xpa xpb xpc xr1 xr2 h0 n0 v U'.heap L ∧ FrameEnd U o U' L room_1.cells room_1.slots) := by
  refine MetFree.of_bodySF (plainFor_of_name own_pn2) hisR ?_
  intro p e s m args below meth c s₁ Bd hml0 hP hK
  obtain ⟨rfl, hZ, hh⟩ := hP
  have hx := Bd.exec
  have hby := Bd.bytes
  have hml : c.maxLocals = 19 := hml0
  have hown : s.vm.findClass "com/example/saturation/saturation/WalkMemoGetPinLaw" = some m.cls := findClass_of_methodNamed Bd.named
  have hnm := (name_of_methodNamed Bd.named Bd.method).1
  have X0 : Stand p l e room_1 s m #[(.int x0), (.int xpa), (.int xpb), (.int xpc), (.int xr1), (.int xr2)] below meth c s₁ [] 0 0 := Stand.of_body Bd
  have e0 : s₁.heap = h0 := by rw [← hh, Bd.state]; rfl
  have N0 := Fr.nil n0
  have st0 : own_Go p e below (s₁.setTop (mkF m 0 #[.val (.int x0), .val (.int xpa), .val (.int xpb), .val (.int xpc), .val (.int xr1), .val (.int xr2), .unset, .unset, .unset, .unset, .unset, .unset, .unset, .unset, .unset, .unset, .unset, .unset, .unset] [])) (s₁.setTop (entryFrame m #[(.int x0), (.int xpa), (.int xpb), (.int xpc), (.int xr1), (.int xr2)] maxLocals)) := fun t k => castTop (own_ef0_IIIIII m x0 xpa xpb xpc xr1 xr2) k
  obtain ⟨n1, h_n1⟩ : ∃ z : Int32, z = ((1 : Int32) + (x0 &&& (7 : Int32))) := ⟨_, rfl⟩
  obtain ⟨n2, h_n2⟩ : ∃ z : Int32, z = (n1 + (((x0.toUInt32 >>> ((3 : Int32) &&& 31).toUInt32).toInt32) &&& (7 : Int32))) := ⟨_, rfl⟩
  have e8 : ((2 ^ 3 : Nat) : Int) = 8 := rfl
  have hn1 : 1 ≤ n1.toInt ∧ n1.toInt ≤ 8 := by
    have h1 := c_mask x0 7 3 (by decide) (by decide)
    have h2 := c_iadd 1 (x0 &&& 7)
    have e1 : (1 : Int32).toInt = 1 := rfl
    have r := rng32 (1 + (x0 &&& 7))
    rw [e8] at h1
    rw [e1] at h2
    rw [h_n1]
    omega
  have hn2 : n1.toInt ≤ n2.toInt ∧ n2.toInt ≤ 15 := by
    have h1 := c_mask ((x0.toUInt32 >>> ((3 : Int32) &&& 31).toUInt32).toInt32) 7 3 (by decide) (by decide)
    have h2 := c_iadd n1 (((x0.toUInt32 >>> ((3 : Int32) &&& 31).toUInt32).toInt32) &&& 7)
    have r := rng32 (n1 + (((x0.toUInt32 >>> ((3 : Int32) &&& 31).toUInt32).toInt32) &&& 7))
    rw [e8] at h1
    rw [h_n2]
    omega
  have hnz1 : n1 ≠ 0 := fun z => by
    have e0 : (0 : Int32).toInt = 0 := rfl
    rw [z, e0] at hn1
    omega
  have hnn1 : ¬ n1 < 0 := own_nn.mpr (by omega)
  obtain ⟨N1, hN1⟩ : ∃ N, n1.toNatClampNeg = N := ⟨_, rfl⟩
  have hNi1 := nat_of hnn1
  rw [hN1] at hNi1
  have hnz2 : n2 ≠ 0 := fun z => by
    have e0 : (0 : Int32).toInt = 0 := rfl
    rw [z, e0] at hn2
    omega
  have hnn2 : ¬ n2 < 0 := own_nn.mpr (by omega)
  obtain ⟨N2, hN2⟩ : ∃ N, n2.toNatClampNeg = N := ⟨_, rfl⟩
  have hNi2 := nat_of hnn2
  rw [hN2] at hNi2
  have hNN : 1 ≤ N1 ∧ N1 ≤ 8 ∧ N1 ≤ N2 ∧ N2 ≤ 15 := by omega
  have st1 : own_Go p e below (s₁.setTop (mkF m 25 #[.val (.int x0), .val (.int xpa), .val (.int xpb), .val (.int xpc), .val (.int xr1), .val (.int xr2), .val (.int n1), .val (.int n2), .unset, .unset, .unset, .unset, .unset, .unset, .unset, .unset, .unset, .unset, .unset] [(.int (((x0.toUInt32 >>> ((6 : Int32) &&& 31).toUInt32).toInt32) &&& (1 : Int32)))])) (s₁.setTop (entryFrame m #[(.int x0), (.int xpa), (.int xpb), (.int xpc), (.int xr1), (.int xr2)] maxLocals)) := fun t kt => st0 t (by
    show Steps p.tables e below (s₁.setTop (mkF m 0 #[.val (.int x0), .val (.int xpa), .val (.int xpb), .val (.int xpc), .val (.int xr1), .val (.int xr2), .unset, .unset, .unset, .unset, .unset, .unset, .unset, .unset, .unset, .unset, .unset, .unset, .unset] [])) _
    refine XS.iconst X0.here hx rfl (hb hby at_0) ?_
    show Steps p.tables e below (s₁.setTop (mkF m 1 #[.val (.int x0), .val (.int xpa), .val (.int xpb), .val (.int xpc), .val (.int xr1), .val (.int xr2), .unset, .unset, .unset, .unset, .unset, .unset, .unset, .unset, .unset, .unset, .unset, .unset, .unset] [(.int (1 : Int32))])) _
    refine XS.iloadN X0.here hx rfl (hb hby at_1) rfl ?_
    show Steps p.tables e below (s₁.setTop (mkF m 2 #[.val (.int x0), .val (.int xpa), .val (.int xpb), .val (.int xpc), .val (.int xr1), .val (.int xr2), .unset, .unset, .unset, .unset, .unset, .unset, .unset, .unset, .unset, .unset, .unset, .unset, .unset] [(.int x0), (.int (1 : Int32))])) _
    refine XS.bipush X0.here hx rfl (hb hby at_2) ?_
    show Steps p.tables e below (s₁.setTop (mkF m 4 #[.val (.int x0), .val (.int xpa), .val (.int xpb), .val (.int xpc), .val (.int xr1), .val (.int xr2), .unset, .unset, .unset, .unset, .unset, .unset, .unset, .unset, .unset, .unset, .unset, .unset, .unset] [(.int (7 : Int32)), (.int x0), (.int (1 : Int32))])) _
    refine XS.iand X0.here hx rfl (hb hby at_4) rfl ?_
    show Steps p.tables e below (s₁.setTop (mkF m 5 #[.val (.int x0), .val (.int xpa), .val (.int xpb), .val (.int xpc), .val (.int xr1), .val (.int xr2), .unset, .unset, .unset, .unset, .unset, .unset, .unset, .unset, .unset, .unset, .unset, .unset, .unset] [(.int (x0 &&& (7 : Int32))), (.int (1 : Int32))])) _
    refine XS.iadd X0.here hx rfl (hb hby at_5) rfl ?_
    show Steps p.tables e below (s₁.setTop (mkF m 6 #[.val (.int x0), .val (.int xpa), .val (.int xpb), .val (.int xpc), .val (.int xr1), .val (.int xr2), .unset, .unset, .unset, .unset, .unset, .unset, .unset, .unset, .unset, .unset, .unset, .unset, .unset] [(.int ((1 : Int32) + (x0 &&& (7 : Int32))))])) _
    rw [← h_n1]
    show Steps p.tables e below (s₁.setTop (mkF m 6 #[.val (.int x0), .val (.int xpa), .val (.int xpb), .val (.int xpc), .val (.int xr1), .val (.int xr2), .unset, .unset, .unset, .unset, .unset, .unset, .unset, .unset, .unset, .unset, .unset, .unset, .unset] [(.int n1)])) _
    refine XS.istore X0.here hx rfl (hb hby at_6) rfl (l' := #[.val (.int x0), .val (.int xpa), .val (.int xpb), .val (.int xpc), .val (.int xr1), .val (.int xr2), .val (.int n1), .unset, .unset, .unset, .unset, .unset, .unset, .unset, .unset, .unset, .unset, .unset, .unset]) rfl ?_
    show Steps p.tables e below (s₁.setTop (mkF m 8 #[.val (.int x0), .val (.int xpa), .val (.int xpb), .val (.int xpc), .val (.int xr1), .val (.int xr2), .val (.int n1), .unset, .unset, .unset, .unset, .unset, .unset, .unset, .unset, .unset, .unset, .unset, .unset] [])) _
    refine XS.iload X0.here hx rfl (hb hby at_8) rfl ?_
    show Steps p.tables e below (s₁.setTop (mkF m 10 #[.val (.int x0), .val (.int xpa), .val (.int xpb), .val (.int xpc), .val (.int xr1), .val (.int xr2), .val (.int n1), .unset, .unset, .unset, .unset, .unset, .unset, .unset, .unset, .unset, .unset, .unset, .unset] [(.int n1)])) _
    refine XS.iloadN X0.here hx rfl (hb hby at_10) rfl ?_
    show Steps p.tables e below (s₁.setTop (mkF m 11 #[.val (.int x0), .val (.int xpa), .val (.int xpb), .val (.int xpc), .val (.int xr1), .val (.int xr2), .val (.int n1), .unset, .unset, .unset, .unset, .unset, .unset, .unset, .unset, .unset, .unset, .unset, .unset] [(.int x0), (.int n1)])) _
    refine XS.iconst X0.here hx rfl (hb hby at_11) ?_
    show Steps p.tables e below (s₁.setTop (mkF m 12 #[.val (.int x0), .val (.int xpa), .val (.int xpb), .val (.int xpc), .val (.int xr1), .val (.int xr2), .val (.int n1), .unset, .unset, .unset, .unset, .unset, .unset, .unset, .unset, .unset, .unset, .unset, .unset] [(.int (3 : Int32)), (.int x0), (.int n1)])) _
    refine XS.iushr X0.here hx rfl (hb hby at_12) rfl ?_
    show Steps p.tables e below (s₁.setTop (mkF m 13 #[.val (.int x0), .val (.int xpa), .val (.int xpb), .val (.int xpc), .val (.int xr1), .val (.int xr2), .val (.int n1), .unset, .unset, .unset, .unset, .unset, .unset, .unset, .unset, .unset, .unset, .unset, .unset] [(.int ((x0.toUInt32 >>> ((3 : Int32) &&& 31).toUInt32).toInt32)), (.int n1)])) _
    refine XS.bipush X0.here hx rfl (hb hby at_13) ?_
    show Steps p.tables e below (s₁.setTop (mkF m 15 #[.val (.int x0), .val (.int xpa), .val (.int xpb), .val (.int xpc), .val (.int xr1), .val (.int xr2), .val (.int n1), .unset, .unset, .unset, .unset, .unset, .unset, .unset, .unset, .unset, .unset, .unset, .unset] [(.int (7 : Int32)), (.int ((x0.toUInt32 >>> ((3 : Int32) &&& 31).toUInt32).toInt32)), (.int n1)])) _
    refine XS.iand X0.here hx rfl (hb hby at_15) rfl ?_
    show Steps p.tables e below (s₁.setTop (mkF m 16 #[.val (.int x0), .val (.int xpa), .val (.int xpb), .val (.int xpc), .val (.int xr1), .val (.int xr2), .val (.int n1), .unset, .unset, .unset, .unset, .unset, .unset, .unset, .unset, .unset, .unset, .unset, .unset] [(.int (((x0.toUInt32 >>> ((3 : Int32) &&& 31).toUInt32).toInt32) &&& (7 : Int32))), (.int n1)])) _
    refine XS.iadd X0.here hx rfl (hb hby at_16) rfl ?_
    show Steps p.tables e below (s₁.setTop (mkF m 17 #[.val (.int x0), .val (.int xpa), .val (.int xpb), .val (.int xpc), .val (.int xr1), .val (.int xr2), .val (.int n1), .unset, .unset, .unset, .unset, .unset, .unset, .unset, .unset, .unset, .unset, .unset, .unset] [(.int (n1 + (((x0.toUInt32 >>> ((3 : Int32) &&& 31).toUInt32).toInt32) &&& (7 : Int32))))])) _
    rw [← h_n2]
    show Steps p.tables e below (s₁.setTop (mkF m 17 #[.val (.int x0), .val (.int xpa), .val (.int xpb), .val (.int xpc), .val (.int xr1), .val (.int xr2), .val (.int n1), .unset, .unset, .unset, .unset, .unset, .unset, .unset, .unset, .unset, .unset, .unset, .unset] [(.int n2)])) _
    refine XS.istore X0.here hx rfl (hb hby at_17) rfl (l' := #[.val (.int x0), .val (.int xpa), .val (.int xpb), .val (.int xpc), .val (.int xr1), .val (.int xr2), .val (.int n1), .val (.int n2), .unset, .unset, .unset, .unset, .unset, .unset, .unset, .unset, .unset, .unset, .unset]) rfl ?_
    show Steps p.tables e below (s₁.setTop (mkF m 19 #[.val (.int x0), .val (.int xpa), .val (.int xpb), .val (.int xpc), .val (.int xr1), .val (.int xr2), .val (.int n1), .val (.int n2), .unset, .unset, .unset, .unset, .unset, .unset, .unset, .unset, .unset, .unset, .unset] [])) _
    refine XS.iloadN X0.here hx rfl (hb hby at_19) rfl ?_
    show Steps p.tables e below (s₁.setTop (mkF m 20 #[.val (.int x0), .val (.int xpa), .val (.int xpb), .val (.int xpc), .val (.int xr1), .val (.int xr2), .val (.int n1), .val (.int n2), .unset, .unset, .unset, .unset, .unset, .unset, .unset, .unset, .unset, .unset, .unset] [(.int x0)])) _
    refine XS.bipush X0.here hx rfl (hb hby at_20) ?_
    show Steps p.tables e below (s₁.setTop (mkF m 22 #[.val (.int x0), .val (.int xpa), .val (.int xpb), .val (.int xpc), .val (.int xr1), .val (.int xr2), .val (.int n1), .val (.int n2), .unset, .unset, .unset, .unset, .unset, .unset, .unset, .unset, .unset, .unset, .unset] [(.int (6 : Int32)), (.int x0)])) _
    refine XS.iushr X0.here hx rfl (hb hby at_22) rfl ?_
    show Steps p.tables e below (s₁.setTop (mkF m 23 #[.val (.int x0), .val (.int xpa), .val (.int xpb), .val (.int xpc), .val (.int xr1), .val (.int xr2), .val (.int n1), .val (.int n2), .unset, .unset, .unset, .unset, .unset, .unset, .unset, .unset, .unset, .unset, .unset] [(.int ((x0.toUInt32 >>> ((6 : Int32) &&& 31).toUInt32).toInt32))])) _
    refine XS.iconst X0.here hx rfl (hb hby at_23) ?_
    show Steps p.tables e below (s₁.setTop (mkF m 24 #[.val (.int x0), .val (.int xpa), .val (.int xpb), .val (.int xpc), .val (.int xr1), .val (.int xr2), .val (.int n1), .val (.int n2), .unset, .unset, .unset, .unset, .unset, .unset, .unset, .unset, .unset, .unset, .unset] [(.int (1 : Int32)), (.int ((x0.toUInt32 >>> ((6 : Int32) &&& 31).toUInt32).toInt32))])) _
    refine XS.iand X0.here hx rfl (hb hby at_24) rfl ?_
    show Steps p.tables e below (s₁.setTop (mkF m 25 #[.val (.int x0), .val (.int xpa), .val (.int xpb), .val (.int xpc), .val (.int xr1), .val (.int xr2), .val (.int n1), .val (.int n2), .unset, .unset, .unset, .unset, .unset, .unset, .unset, .unset, .unset, .unset, .unset] [(.int (((x0.toUInt32 >>> ((6 : Int32) &&& 31).toUInt32).toInt32) &&& (1 : Int32)))])) _
    exact kt)
  by_cases q1 : (((x0.toUInt32 >>> ((6 : Int32) &&& 31).toUInt32).toInt32) &&& (1 : Int32)) = (0 : Int32)
  · have st2 : own_Go p e below (s₁.setTop (mkF m 41 #[.val (.int x0), .val (.int xpa), .val (.int xpb), .val (.int xpc), .val (.int xr1), .val (.int xr2), .val (.int n1), .val (.int n2), .val (.int (0 : Int32)), .unset, .unset, .unset, .unset, .unset, .unset, .unset, .unset, .unset, .unset] [(.int (((x0.toUInt32 >>> ((7 : Int32) &&& 31).toUInt32).toInt32) &&& (1 : Int32)))])) (s₁.setTop (entryFrame m #[(.int x0), (.int xpa), (.int xpb), (.int xpc), (.int xr1), (.int xr2)] maxLocals)) := fun t kt => st1 t (by
      show Steps p.tables e below (s₁.setTop (mkF m 25 #[.val (.int x0), .val (.int xpa), .val (.int xpb), .val (.int xpc), .val (.int xr1), .val (.int xr2), .val (.int n1), .val (.int n2), .unset, .unset, .unset, .unset, .unset, .unset, .unset, .unset, .unset, .unset, .unset] [(.int (((x0.toUInt32 >>> ((6 : Int32) &&& 31).toUInt32).toInt32) &&& (1 : Int32)))])) _
      refine XS.ifYes X0.here hx rfl (pc0 := 25) (pc' := 32) rfl (hb hby at_25) rfl ((if0 _ _).trans (teq q1).1) (by decide) (by decide) ?_
      show Steps p.tables e below (s₁.setTop (mkF m 32 #[.val (.int x0), .val (.int xpa), .val (.int xpb), .val (.int xpc), .val (.int xr1), .val (.int xr2), .val (.int n1), .val (.int n2), .unset, .unset, .unset, .unset, .unset, .unset, .unset, .unset, .unset, .unset, .unset] [])) _
      refine XS.iconst X0.here hx rfl (hb hby at_32) ?_
      show Steps p.tables e below (s₁.setTop (mkF m 33 #[.val (.int x0), .val (.int xpa), .val (.int xpb), .val (.int xpc), .val (.int xr1), .val (.int xr2), .val (.int n1), .val (.int n2), .unset, .unset, .unset, .unset, .unset, .unset, .unset, .unset, .unset, .unset, .unset] [(.int (0 : Int32))])) _
      refine XS.istore X0.here hx rfl (hb hby at_33) rfl (l' := #[.val (.int x0), .val (.int xpa), .val (.int xpb), .val (.int xpc), .val (.int xr1), .val (.int xr2), .val (.int n1), .val (.int n2), .val (.int (0 : Int32)), .unset, .unset, .unset, .unset, .unset, .unset, .unset, .unset, .unset, .unset]) rfl ?_
      show Steps p.tables e below (s₁.setTop (mkF m 35 #[.val (.int x0), .val (.int xpa), .val (.int xpb), .val (.int xpc), .val (.int xr1), .val (.int xr2), .val (.int n1), .val (.int n2), .val (.int (0 : Int32)), .unset, .unset, .unset, .unset, .unset, .unset, .unset, .unset, .unset, .unset] [])) _
      refine XS.iloadN X0.here hx rfl (hb hby at_35) rfl ?_
      show Steps p.tables e below (s₁.setTop (mkF m 36 #[.val (.int x0), .val (.int xpa), .val (.int xpb), .val (.int xpc), .val (.int xr1), .val (.int xr2), .val (.int n1), .val (.int n2), .val (.int (0 : Int32)), .unset, .unset, .unset, .unset, .unset, .unset, .unset, .unset, .unset, .unset] [(.int x0)])) _
      refine XS.bipush X0.here hx rfl (hb hby at_36) ?_
      show Steps p.tables e below (s₁.setTop (mkF m 38 #[.val (.int x0), .val (.int xpa), .val (.int xpb), .val (.int xpc), .val (.int xr1), .val (.int xr2), .val (.int n1), .val (.int n2), .val (.int (0 : Int32)), .unset, .unset, .unset, .unset, .unset, .unset, .unset, .unset, .unset, .unset] [(.int (7 : Int32)), (.int x0)])) _
      refine XS.iushr X0.here hx rfl (hb hby at_38) rfl ?_
      show Steps p.tables e below (s₁.setTop (mkF m 39 #[.val (.int x0), .val (.int xpa), .val (.int xpb), .val (.int xpc), .val (.int xr1), .val (.int xr2), .val (.int n1), .val (.int n2), .val (.int (0 : Int32)), .unset, .unset, .unset, .unset, .unset, .unset, .unset, .unset, .unset, .unset] [(.int ((x0.toUInt32 >>> ((7 : Int32) &&& 31).toUInt32).toInt32))])) _
      refine XS.iconst X0.here hx rfl (hb hby at_39) ?_
      show Steps p.tables e below (s₁.setTop (mkF m 40 #[.val (.int x0), .val (.int xpa), .val (.int xpb), .val (.int xpc), .val (.int xr1), .val (.int xr2), .val (.int n1), .val (.int n2), .val (.int (0 : Int32)), .unset, .unset, .unset, .unset, .unset, .unset, .unset, .unset, .unset, .unset] [(.int (1 : Int32)), (.int ((x0.toUInt32 >>> ((7 : Int32) &&& 31).toUInt32).toInt32))])) _
      refine XS.iand X0.here hx rfl (hb hby at_40) rfl ?_
      show Steps p.tables e below (s₁.setTop (mkF m 41 #[.val (.int x0), .val (.int xpa), .val (.int xpb), .val (.int xpc), .val (.int xr1), .val (.int xr2), .val (.int n1), .val (.int n2), .val (.int (0 : Int32)), .unset, .unset, .unset, .unset, .unset, .unset, .unset, .unset, .unset, .unset] [(.int (((x0.toUInt32 >>> ((7 : Int32) &&& 31).toUInt32).toInt32) &&& (1 : Int32)))])) _
      exact kt)
    by_cases q2 : (((x0.toUInt32 >>> ((7 : Int32) &&& 31).toUInt32).toInt32) &&& (1 : Int32)) = (0 : Int32)
    · obtain ⟨r1, h_r1⟩ : ∃ z : Int32, z = (xr1 &&& (2147483647 : Int32)) := ⟨_, rfl⟩
      obtain ⟨r2, h_r2⟩ : ∃ z : Int32, z = (xr2 &&& (2147483647 : Int32)) := ⟨_, rfl⟩
      have hc3 : (0 : Int32) = (0 : Int32) := rfl
      obtain ⟨ia, h_ia⟩ : ∃ z : Int32, z = ((xpa &&& (2147483647 : Int32)) % n1) := ⟨_, rfl⟩
      obtain ⟨ib, h_ib⟩ : ∃ z : Int32, z = ((xpb &&& (2147483647 : Int32)) % n1) := ⟨_, rfl⟩
      obtain ⟨ic, h_ic⟩ : ∃ z : Int32, z = ((xpc &&& (2147483647 : Int32)) % n1) := ⟨_, rfl⟩
      have i_ia := own_idx xpa n1 (by omega)
      rw [← h_ia, hN1] at i_ia
      have i_ib := own_idx xpb n1 (by omega)
      rw [← h_ib, hN1] at i_ib
      have i_ic := own_idx xpc n1 (by omega)
      rw [← h_ic, hN1] at i_ic
      have p1 := own_pos xr1
      rw [← h_r1] at p1
      have p2 := own_pos xr2
      rw [← h_r2] at p2
      obtain ⟨i, hk_ia⟩ : ∃ z, ia.toNatClampNeg = z := ⟨_, rfl⟩
      rw [hk_ia] at i_ia
      obtain ⟨j, hk_ib⟩ : ∃ z, ib.toNatClampNeg = z := ⟨_, rfl⟩
      rw [hk_ib] at i_ib
      obtain ⟨k, hk_ic⟩ : ∃ z, ic.toNatClampNeg = z := ⟨_, rfl⟩
      rw [hk_ic] at i_ic
      have st4 : own_Go p e below (s₁.setTop (mkF m 106 #[.val (.int x0), .val (.int xpa), .val (.int xpb), .val (.int xpc), .val (.int xr1), .val (.int xr2), .val (.int n1), .val (.int n2), .val (.int (0 : Int32)), .val (.int (0 : Int32)), .val (.int r1), .val (.int r2), .val (.int n1), .val (.int ia), .val (.int ib), .val (.int ic), .unset, .unset, .unset] [])) (s₁.setTop (entryFrame m #[(.int x0), (.int xpa), (.int xpb), (.int xpc), (.int xr1), (.int xr2)] maxLocals)) := fun t kt => st2 t (by
        show Steps p.tables e below (s₁.setTop (mkF m 41 #[.val (.int x0), .val (.int xpa), .val (.int xpb), .val (.int xpc), .val (.int xr1), .val (.int xr2), .val (.int n1), .val (.int n2), .val (.int (0 : Int32)), .unset, .unset, .unset, .unset, .unset, .unset, .unset, .unset, .unset, .unset] [(.int (((x0.toUInt32 >>> ((7 : Int32) &&& 31).toUInt32).toInt32) &&& (1 : Int32)))])) _
        refine XS.ifYes X0.here hx rfl (pc0 := 41) (pc' := 48) rfl (hb hby at_41) rfl ((if0 _ _).trans (teq q2).1) (by decide) (by decide) ?_
        show Steps p.tables e below (s₁.setTop (mkF m 48 #[.val (.int x0), .val (.int xpa), .val (.int xpb), .val (.int xpc), .val (.int xr1), .val (.int xr2), .val (.int n1), .val (.int n2), .val (.int (0 : Int32)), .unset, .unset, .unset, .unset, .unset, .unset, .unset, .unset, .unset, .unset] [])) _
        refine XS.iconst X0.here hx rfl (hb hby at_48) ?_
        show Steps p.tables e below (s₁.setTop (mkF m 49 #[.val (.int x0), .val (.int xpa), .val (.int xpb), .val (.int xpc), .val (.int xr1), .val (.int xr2), .val (.int n1), .val (.int n2), .val (.int (0 : Int32)), .unset, .unset, .unset, .unset, .unset, .unset, .unset, .unset, .unset, .unset] [(.int (0 : Int32))])) _
        refine XS.istore X0.here hx rfl (hb hby at_49) rfl (l' := #[.val (.int x0), .val (.int xpa), .val (.int xpb), .val (.int xpc), .val (.int xr1), .val (.int xr2), .val (.int n1), .val (.int n2), .val (.int (0 : Int32)), .val (.int (0 : Int32)), .unset, .unset, .unset, .unset, .unset, .unset, .unset, .unset, .unset]) rfl ?_
        show Steps p.tables e below (s₁.setTop (mkF m 51 #[.val (.int x0), .val (.int xpa), .val (.int xpb), .val (.int xpc), .val (.int xr1), .val (.int xr2), .val (.int n1), .val (.int n2), .val (.int (0 : Int32)), .val (.int (0 : Int32)), .unset, .unset, .unset, .unset, .unset, .unset, .unset, .unset, .unset] [])) _
        refine XS.iload X0.here hx rfl (hb hby at_51) rfl ?_
        show Steps p.tables e below (s₁.setTop (mkF m 53 #[.val (.int x0), .val (.int xpa), .val (.int xpb), .val (.int xpc), .val (.int xr1), .val (.int xr2), .val (.int n1), .val (.int n2), .val (.int (0 : Int32)), .val (.int (0 : Int32)), .unset, .unset, .unset, .unset, .unset, .unset, .unset, .unset, .unset] [(.int xr1)])) _
        refine X0.ldcInt hx hown (mvT hZ (hw _ (List.mem_of_getElem? (i := 0) rfl))) (g := (mkF m 53 #[.val (.int x0), .val (.int xpa), .val (.int xpb), .val (.int xpc), .val (.int xr1), .val (.int xr2), .val (.int n1), .val (.int n2), .val (.int (0 : Int32)), .val (.int (0 : Int32)), .unset, .unset, .unset, .unset, .unset, .unset, .unset, .unset, .unset] [(.int xr1)])) rfl (hb hby at_53) _ ?_
        show Steps p.tables e below (s₁.setTop (mkF m 55 #[.val (.int x0), .val (.int xpa), .val (.int xpb), .val (.int xpc), .val (.int xr1), .val (.int xr2), .val (.int n1), .val (.int n2), .val (.int (0 : Int32)), .val (.int (0 : Int32)), .unset, .unset, .unset, .unset, .unset, .unset, .unset, .unset, .unset] [(.int (2147483647 : Int32)), (.int xr1)])) _
        refine XS.iand X0.here hx rfl (hb hby at_55) rfl ?_
        show Steps p.tables e below (s₁.setTop (mkF m 56 #[.val (.int x0), .val (.int xpa), .val (.int xpb), .val (.int xpc), .val (.int xr1), .val (.int xr2), .val (.int n1), .val (.int n2), .val (.int (0 : Int32)), .val (.int (0 : Int32)), .unset, .unset, .unset, .unset, .unset, .unset, .unset, .unset, .unset] [(.int (xr1 &&& (2147483647 : Int32)))])) _
        rw [← h_r1]
        show Steps p.tables e below (s₁.setTop (mkF m 56 #[.val (.int x0), .val (.int xpa), .val (.int xpb), .val (.int xpc), .val (.int xr1), .val (.int xr2), .val (.int n1), .val (.int n2), .val (.int (0 : Int32)), .val (.int (0 : Int32)), .unset, .unset, .unset, .unset, .unset, .unset, .unset, .unset, .unset] [(.int r1)])) _
        refine XS.istore X0.here hx rfl (hb hby at_56) rfl (l' := #[.val (.int x0), .val (.int xpa), .val (.int xpb), .val (.int xpc), .val (.int xr1), .val (.int xr2), .val (.int n1), .val (.int n2), .val (.int (0 : Int32)), .val (.int (0 : Int32)), .val (.int r1), .unset, .unset, .unset, .unset, .unset, .unset, .unset, .unset]) rfl ?_
        show Steps p.tables e below (s₁.setTop (mkF m 58 #[.val (.int x0), .val (.int xpa), .val (.int xpb), .val (.int xpc), .val (.int xr1), .val (.int xr2), .val (.int n1), .val (.int n2), .val (.int (0 : Int32)), .val (.int (0 : Int32)), .val (.int r1), .unset, .unset, .unset, .unset, .unset, .unset, .unset, .unset] [])) _
        refine XS.iload X0.here hx rfl (hb hby at_58) rfl ?_
        show Steps p.tables e below (s₁.setTop (mkF m 60 #[.val (.int x0), .val (.int xpa), .val (.int xpb), .val (.int xpc), .val (.int xr1), .val (.int xr2), .val (.int n1), .val (.int n2), .val (.int (0 : Int32)), .val (.int (0 : Int32)), .val (.int r1), .unset, .unset, .unset, .unset, .unset, .unset, .unset, .unset] [(.int xr2)])) _
        refine X0.ldcInt hx hown (mvT hZ (hw _ (List.mem_of_getElem? (i := 0) rfl))) (g := (mkF m 60 #[.val (.int x0), .val (.int xpa), .val (.int xpb), .val (.int xpc), .val (.int xr1), .val (.int xr2), .val (.int n1), .val (.int n2), .val (.int (0 : Int32)), .val (.int (0 : Int32)), .val (.int r1), .unset, .unset, .unset, .unset, .unset, .unset, .unset, .unset] [(.int xr2)])) rfl (hb hby at_60) _ ?_
        show Steps p.tables e below (s₁.setTop (mkF m 62 #[.val (.int x0), .val (.int xpa), .val (.int xpb), .val (.int xpc), .val (.int xr1), .val (.int xr2), .val (.int n1), .val (.int n2), .val (.int (0 : Int32)), .val (.int (0 : Int32)), .val (.int r1), .unset, .unset, .unset, .unset, .unset, .unset, .unset, .unset] [(.int (2147483647 : Int32)), (.int xr2)])) _
        refine XS.iand X0.here hx rfl (hb hby at_62) rfl ?_
        show Steps p.tables e below (s₁.setTop (mkF m 63 #[.val (.int x0), .val (.int xpa), .val (.int xpb), .val (.int xpc), .val (.int xr1), .val (.int xr2), .val (.int n1), .val (.int n2), .val (.int (0 : Int32)), .val (.int (0 : Int32)), .val (.int r1), .unset, .unset, .unset, .unset, .unset, .unset, .unset, .unset] [(.int (xr2 &&& (2147483647 : Int32)))])) _
        rw [← h_r2]
        show Steps p.tables e below (s₁.setTop (mkF m 63 #[.val (.int x0), .val (.int xpa), .val (.int xpb), .val (.int xpc), .val (.int xr1), .val (.int xr2), .val (.int n1), .val (.int n2), .val (.int (0 : Int32)), .val (.int (0 : Int32)), .val (.int r1), .unset, .unset, .unset, .unset, .unset, .unset, .unset, .unset] [(.int r2)])) _
        refine XS.istore X0.here hx rfl (hb hby at_63) rfl (l' := #[.val (.int x0), .val (.int xpa), .val (.int xpb), .val (.int xpc), .val (.int xr1), .val (.int xr2), .val (.int n1), .val (.int n2), .val (.int (0 : Int32)), .val (.int (0 : Int32)), .val (.int r1), .val (.int r2), .unset, .unset, .unset, .unset, .unset, .unset, .unset]) rfl ?_
        show Steps p.tables e below (s₁.setTop (mkF m 65 #[.val (.int x0), .val (.int xpa), .val (.int xpb), .val (.int xpc), .val (.int xr1), .val (.int xr2), .val (.int n1), .val (.int n2), .val (.int (0 : Int32)), .val (.int (0 : Int32)), .val (.int r1), .val (.int r2), .unset, .unset, .unset, .unset, .unset, .unset, .unset] [])) _
        refine XS.iload X0.here hx rfl (hb hby at_65) rfl ?_
        show Steps p.tables e below (s₁.setTop (mkF m 67 #[.val (.int x0), .val (.int xpa), .val (.int xpb), .val (.int xpc), .val (.int xr1), .val (.int xr2), .val (.int n1), .val (.int n2), .val (.int (0 : Int32)), .val (.int (0 : Int32)), .val (.int r1), .val (.int r2), .unset, .unset, .unset, .unset, .unset, .unset, .unset] [(.int (0 : Int32))])) _
        refine XS.ifYes X0.here hx rfl (pc0 := 67) (pc' := 75) rfl (hb hby at_67) rfl ((if0 _ _).trans (teq hc3).1) (by decide) (by decide) ?_
        show Steps p.tables e below (s₁.setTop (mkF m 75 #[.val (.int x0), .val (.int xpa), .val (.int xpb), .val (.int xpc), .val (.int xr1), .val (.int xr2), .val (.int n1), .val (.int n2), .val (.int (0 : Int32)), .val (.int (0 : Int32)), .val (.int r1), .val (.int r2), .unset, .unset, .unset, .unset, .unset, .unset, .unset] [])) _
        refine XS.iload X0.here hx rfl (hb hby at_75) rfl ?_
        show Steps p.tables e below (s₁.setTop (mkF m 77 #[.val (.int x0), .val (.int xpa), .val (.int xpb), .val (.int xpc), .val (.int xr1), .val (.int xr2), .val (.int n1), .val (.int n2), .val (.int (0 : Int32)), .val (.int (0 : Int32)), .val (.int r1), .val (.int r2), .unset, .unset, .unset, .unset, .unset, .unset, .unset] [(.int n1)])) _
        refine XS.istore X0.here hx rfl (hb hby at_77) rfl (l' := #[.val (.int x0), .val (.int xpa), .val (.int xpb), .val (.int xpc), .val (.int xr1), .val (.int xr2), .val (.int n1), .val (.int n2), .val (.int (0 : Int32)), .val (.int (0 : Int32)), .val (.int r1), .val (.int r2), .val (.int n1), .unset, .unset, .unset, .unset, .unset, .unset]) rfl ?_
        show Steps p.tables e below (s₁.setTop (mkF m 79 #[.val (.int x0), .val (.int xpa), .val (.int xpb), .val (.int xpc), .val (.int xr1), .val (.int xr2), .val (.int n1), .val (.int n2), .val (.int (0 : Int32)), .val (.int (0 : Int32)), .val (.int r1), .val (.int r2), .val (.int n1), .unset, .unset, .unset, .unset, .unset, .unset] [])) _
        refine XS.iloadN X0.here hx rfl (hb hby at_79) rfl ?_
        show Steps p.tables e below (s₁.setTop (mkF m 80 #[.val (.int x0), .val (.int xpa), .val (.int xpb), .val (.int xpc), .val (.int xr1), .val (.int xr2), .val (.int n1), .val (.int n2), .val (.int (0 : Int32)), .val (.int (0 : Int32)), .val (.int r1), .val (.int r2), .val (.int n1), .unset, .unset, .unset, .unset, .unset, .unset] [(.int xpa)])) _
        refine X0.ldcInt hx hown (mvT hZ (hw _ (List.mem_of_getElem? (i := 0) rfl))) (g := (mkF m 80 #[.val (.int x0), .val (.int xpa), .val (.int xpb), .val (.int xpc), .val (.int xr1), .val (.int xr2), .val (.int n1), .val (.int n2), .val (.int (0 : Int32)), .val (.int (0 : Int32)), .val (.int r1), .val (.int r2), .val (.int n1), .unset, .unset, .unset, .unset, .unset, .unset] [(.int xpa)])) rfl (hb hby at_80) _ ?_
        show Steps p.tables e below (s₁.setTop (mkF m 82 #[.val (.int x0), .val (.int xpa), .val (.int xpb), .val (.int xpc), .val (.int xr1), .val (.int xr2), .val (.int n1), .val (.int n2), .val (.int (0 : Int32)), .val (.int (0 : Int32)), .val (.int r1), .val (.int r2), .val (.int n1), .unset, .unset, .unset, .unset, .unset, .unset] [(.int (2147483647 : Int32)), (.int xpa)])) _
        refine XS.iand X0.here hx rfl (hb hby at_82) rfl ?_
        show Steps p.tables e below (s₁.setTop (mkF m 83 #[.val (.int x0), .val (.int xpa), .val (.int xpb), .val (.int xpc), .val (.int xr1), .val (.int xr2), .val (.int n1), .val (.int n2), .val (.int (0 : Int32)), .val (.int (0 : Int32)), .val (.int r1), .val (.int r2), .val (.int n1), .unset, .unset, .unset, .unset, .unset, .unset] [(.int (xpa &&& (2147483647 : Int32)))])) _
        refine XS.iload X0.here hx rfl (hb hby at_83) rfl ?_
        show Steps p.tables e below (s₁.setTop (mkF m 85 #[.val (.int x0), .val (.int xpa), .val (.int xpb), .val (.int xpc), .val (.int xr1), .val (.int xr2), .val (.int n1), .val (.int n2), .val (.int (0 : Int32)), .val (.int (0 : Int32)), .val (.int r1), .val (.int r2), .val (.int n1), .unset, .unset, .unset, .unset, .unset, .unset] [(.int n1), (.int (xpa &&& (2147483647 : Int32)))])) _
        refine iremM X0 hx rfl (hb hby at_85) rfl hnz1 ?_
        show Steps p.tables e below (s₁.setTop (mkF m 86 #[.val (.int x0), .val (.int xpa), .val (.int xpb), .val (.int xpc), .val (.int xr1), .val (.int xr2), .val (.int n1), .val (.int n2), .val (.int (0 : Int32)), .val (.int (0 : Int32)), .val (.int r1), .val (.int r2), .val (.int n1), .unset, .unset, .unset, .unset, .unset, .unset] [(.int ((xpa &&& (2147483647 : Int32)) % n1))])) _
        rw [← h_ia]
        show Steps p.tables e below (s₁.setTop (mkF m 86 #[.val (.int x0), .val (.int xpa), .val (.int xpb), .val (.int xpc), .val (.int xr1), .val (.int xr2), .val (.int n1), .val (.int n2), .val (.int (0 : Int32)), .val (.int (0 : Int32)), .val (.int r1), .val (.int r2), .val (.int n1), .unset, .unset, .unset, .unset, .unset, .unset] [(.int ia)])) _
        refine XS.istore X0.here hx rfl (hb hby at_86) rfl (l' := #[.val (.int x0), .val (.int xpa), .val (.int xpb), .val (.int xpc), .val (.int xr1), .val (.int xr2), .val (.int n1), .val (.int n2), .val (.int (0 : Int32)), .val (.int (0 : Int32)), .val (.int r1), .val (.int r2), .val (.int n1), .val (.int ia), .unset, .unset, .unset, .unset, .unset]) rfl ?_
        show Steps p.tables e below (s₁.setTop (mkF m 88 #[.val (.int x0), .val (.int xpa), .val (.int xpb), .val (.int xpc), .val (.int xr1), .val (.int xr2), .val (.int n1), .val (.int n2), .val (.int (0 : Int32)), .val (.int (0 : Int32)), .val (.int r1), .val (.int r2), .val (.int n1), .val (.int ia), .unset, .unset, .unset, .unset, .unset] [])) _
        refine XS.iloadN X0.here hx rfl (hb hby at_88) rfl ?_
        show Steps p.tables e below (s₁.setTop (mkF m 89 #[.val (.int x0), .val (.int xpa), .val (.int xpb), .val (.int xpc), .val (.int xr1), .val (.int xr2), .val (.int n1), .val (.int n2), .val (.int (0 : Int32)), .val (.int (0 : Int32)), .val (.int r1), .val (.int r2), .val (.int n1), .val (.int ia), .unset, .unset, .unset, .unset, .unset] [(.int xpb)])) _
        refine X0.ldcInt hx hown (mvT hZ (hw _ (List.mem_of_getElem? (i := 0) rfl))) (g := (mkF m 89 #[.val (.int x0), .val (.int xpa), .val (.int xpb), .val (.int xpc), .val (.int xr1), .val (.int xr2), .val (.int n1), .val (.int n2), .val (.int (0 : Int32)), .val (.int (0 : Int32)), .val (.int r1), .val (.int r2), .val (.int n1), .val (.int ia), .unset, .unset, .unset, .unset, .unset] [(.int xpb)])) rfl (hb hby at_89) _ ?_
        show Steps p.tables e below (s₁.setTop (mkF m 91 #[.val (.int x0), .val (.int xpa), .val (.int xpb), .val (.int xpc), .val (.int xr1), .val (.int xr2), .val (.int n1), .val (.int n2), .val (.int (0 : Int32)), .val (.int (0 : Int32)), .val (.int r1), .val (.int r2), .val (.int n1), .val (.int ia), .unset, .unset, .unset, .unset, .unset] [(.int (2147483647 : Int32)), (.int xpb)])) _
        refine XS.iand X0.here hx rfl (hb hby at_91) rfl ?_
        show Steps p.tables e below (s₁.setTop (mkF m 92 #[.val (.int x0), .val (.int xpa), .val (.int xpb), .val (.int xpc), .val (.int xr1), .val (.int xr2), .val (.int n1), .val (.int n2), .val (.int (0 : Int32)), .val (.int (0 : Int32)), .val (.int r1), .val (.int r2), .val (.int n1), .val (.int ia), .unset, .unset, .unset, .unset, .unset] [(.int (xpb &&& (2147483647 : Int32)))])) _
        refine XS.iload X0.here hx rfl (hb hby at_92) rfl ?_
        show Steps p.tables e below (s₁.setTop (mkF m 94 #[.val (.int x0), .val (.int xpa), .val (.int xpb), .val (.int xpc), .val (.int xr1), .val (.int xr2), .val (.int n1), .val (.int n2), .val (.int (0 : Int32)), .val (.int (0 : Int32)), .val (.int r1), .val (.int r2), .val (.int n1), .val (.int ia), .unset, .unset, .unset, .unset, .unset] [(.int n1), (.int (xpb &&& (2147483647 : Int32)))])) _
        refine iremM X0 hx rfl (hb hby at_94) rfl hnz1 ?_
        show Steps p.tables e below (s₁.setTop (mkF m 95 #[.val (.int x0), .val (.int xpa), .val (.int xpb), .val (.int xpc), .val (.int xr1), .val (.int xr2), .val (.int n1), .val (.int n2), .val (.int (0 : Int32)), .val (.int (0 : Int32)), .val (.int r1), .val (.int r2), .val (.int n1), .val (.int ia), .unset, .unset, .unset, .unset, .unset] [(.int ((xpb &&& (2147483647 : Int32)) % n1))])) _
        rw [← h_ib]
        show Steps p.tables e below (s₁.setTop (mkF m 95 #[.val (.int x0), .val (.int xpa), .val (.int xpb), .val (.int xpc), .val (.int xr1), .val (.int xr2), .val (.int n1), .val (.int n2), .val (.int (0 : Int32)), .val (.int (0 : Int32)), .val (.int r1), .val (.int r2), .val (.int n1), .val (.int ia), .unset, .unset, .unset, .unset, .unset] [(.int ib)])) _
        refine XS.istore X0.here hx rfl (hb hby at_95) rfl (l' := #[.val (.int x0), .val (.int xpa), .val (.int xpb), .val (.int xpc), .val (.int xr1), .val (.int xr2), .val (.int n1), .val (.int n2), .val (.int (0 : Int32)), .val (.int (0 : Int32)), .val (.int r1), .val (.int r2), .val (.int n1), .val (.int ia), .val (.int ib), .unset, .unset, .unset, .unset]) rfl ?_
        show Steps p.tables e below (s₁.setTop (mkF m 97 #[.val (.int x0), .val (.int xpa), .val (.int xpb), .val (.int xpc), .val (.int xr1), .val (.int xr2), .val (.int n1), .val (.int n2), .val (.int (0 : Int32)), .val (.int (0 : Int32)), .val (.int r1), .val (.int r2), .val (.int n1), .val (.int ia), .val (.int ib), .unset, .unset, .unset, .unset] [])) _
        refine XS.iloadN X0.here hx rfl (hb hby at_97) rfl ?_
        show Steps p.tables e below (s₁.setTop (mkF m 98 #[.val (.int x0), .val (.int xpa), .val (.int xpb), .val (.int xpc), .val (.int xr1), .val (.int xr2), .val (.int n1), .val (.int n2), .val (.int (0 : Int32)), .val (.int (0 : Int32)), .val (.int r1), .val (.int r2), .val (.int n1), .val (.int ia), .val (.int ib), .unset, .unset, .unset, .unset] [(.int xpc)])) _
        refine X0.ldcInt hx hown (mvT hZ (hw _ (List.mem_of_getElem? (i := 0) rfl))) (g := (mkF m 98 #[.val (.int x0), .val (.int xpa), .val (.int xpb), .val (.int xpc), .val (.int xr1), .val (.int xr2), .val (.int n1), .val (.int n2), .val (.int (0 : Int32)), .val (.int (0 : Int32)), .val (.int r1), .val (.int r2), .val (.int n1), .val (.int ia), .val (.int ib), .unset, .unset, .unset, .unset] [(.int xpc)])) rfl (hb hby at_98) _ ?_
        show Steps p.tables e below (s₁.setTop (mkF m 100 #[.val (.int x0), .val (.int xpa), .val (.int xpb), .val (.int xpc), .val (.int xr1), .val (.int xr2), .val (.int n1), .val (.int n2), .val (.int (0 : Int32)), .val (.int (0 : Int32)), .val (.int r1), .val (.int r2), .val (.int n1), .val (.int ia), .val (.int ib), .unset, .unset, .unset, .unset] [(.int (2147483647 : Int32)), (.int xpc)])) _
        refine XS.iand X0.here hx rfl (hb hby at_100) rfl ?_
        show Steps p.tables e below (s₁.setTop (mkF m 101 #[.val (.int x0), .val (.int xpa), .val (.int xpb), .val (.int xpc), .val (.int xr1), .val (.int xr2), .val (.int n1), .val (.int n2), .val (.int (0 : Int32)), .val (.int (0 : Int32)), .val (.int r1), .val (.int r2), .val (.int n1), .val (.int ia), .val (.int ib), .unset, .unset, .unset, .unset] [(.int (xpc &&& (2147483647 : Int32)))])) _
        refine XS.iload X0.here hx rfl (hb hby at_101) rfl ?_
        show Steps p.tables e below (s₁.setTop (mkF m 103 #[.val (.int x0), .val (.int xpa), .val (.int xpb), .val (.int xpc), .val (.int xr1), .val (.int xr2), .val (.int n1), .val (.int n2), .val (.int (0 : Int32)), .val (.int (0 : Int32)), .val (.int r1), .val (.int r2), .val (.int n1), .val (.int ia), .val (.int ib), .unset, .unset, .unset, .unset] [(.int n1), (.int (xpc &&& (2147483647 : Int32)))])) _
        refine iremM X0 hx rfl (hb hby at_103) rfl hnz1 ?_
        show Steps p.tables e below (s₁.setTop (mkF m 104 #[.val (.int x0), .val (.int xpa), .val (.int xpb), .val (.int xpc), .val (.int xr1), .val (.int xr2), .val (.int n1), .val (.int n2), .val (.int (0 : Int32)), .val (.int (0 : Int32)), .val (.int r1), .val (.int r2), .val (.int n1), .val (.int ia), .val (.int ib), .unset, .unset, .unset, .unset] [(.int ((xpc &&& (2147483647 : Int32)) % n1))])) _
        rw [← h_ic]
        show Steps p.tables e below (s₁.setTop (mkF m 104 #[.val (.int x0), .val (.int xpa), .val (.int xpb), .val (.int xpc), .val (.int xr1), .val (.int xr2), .val (.int n1), .val (.int n2), .val (.int (0 : Int32)), .val (.int (0 : Int32)), .val (.int r1), .val (.int r2), .val (.int n1), .val (.int ia), .val (.int ib), .unset, .unset, .unset, .unset] [(.int ic)])) _
        refine XS.istore X0.here hx rfl (hb hby at_104) rfl (l' := #[.val (.int x0), .val (.int xpa), .val (.int xpb), .val (.int xpc), .val (.int xr1), .val (.int xr2), .val (.int n1), .val (.int n2), .val (.int (0 : Int32)), .val (.int (0 : Int32)), .val (.int r1), .val (.int r2), .val (.int n1), .val (.int ia), .val (.int ib), .val (.int ic), .unset, .unset, .unset]) rfl ?_
        show Steps p.tables e below (s₁.setTop (mkF m 106 #[.val (.int x0), .val (.int xpa), .val (.int xpb), .val (.int xpc), .val (.int xr1), .val (.int xr2), .val (.int n1), .val (.int n2), .val (.int (0 : Int32)), .val (.int (0 : Int32)), .val (.int r1), .val (.int r2), .val (.int n1), .val (.int ia), .val (.int ib), .val (.int ic), .unset, .unset, .unset] [])) _
        exact kt)
      obtain ⟨T5, h5, X5, e5, E5, A5, D5, -, ls5⟩ := newO X0 hx hZ hown (hw _ (List.mem_of_getElem? (i := 1) rfl)) (hw _ (List.mem_of_getElem? (i := 2) rfl)) (hw _ (List.mem_of_getElem? (i := 3) rfl)) e0 (g := (mkF m 106 #[.val (.int x0), .val (.int xpa), .val (.int xpb), .val (.int xpc), .val (.int xr1), .val (.int xr2), .val (.int n1), .val (.int n2), .val (.int (0 : Int32)), .val (.int (0 : Int32)), .val (.int r1), .val (.int r2), .val (.int n1), .val (.int ia), .val (.int ib), .val (.int ic), .unset, .unset, .unset] [])) rfl (hb hby at_106) (by decide) (by decide)
      obtain ⟨b1, g5⟩ : ∃ z, z = h0.size := ⟨_, rfl⟩
      rw [← g5] at A5 D5 ls5
      have g_b1 : n0 ≤ b1 := Nat.le_trans Z0 (Nat.le_of_eq g5.symm)
      have z6 := Nat.le_trans Z0 E5.1
      have f7 : Fld Z h5 b1 "com/example/saturation/saturation/WalkMemo" "entries" "[J" .null := D5 (Or.inl (hw _ (List.mem_of_getElem? (i := 12) rfl))) (ty := (.array .long)) (by decide)
      have f8 : Fld Z h5 b1 "com/example/saturation/saturation/WalkMemo" "stamp" "I" (.int (0 : Int32)) := D5 (Or.inl (hw _ (List.mem_of_getElem? (i := 34) rfl))) (ty := .int) (by decide)
      have st9 : own_Go p e below (T5.setTop (mkF m 109 #[.val (.int x0), .val (.int xpa), .val (.int xpb), .val (.int xpc), .val (.int xr1), .val (.int xr2), .val (.int n1), .val (.int n2), .val (.int (0 : Int32)), .val (.int (0 : Int32)), .val (.int r1), .val (.int r2), .val (.int n1), .val (.int ia), .val (.int ib), .val (.int ic), .unset, .unset, .unset] [(.ref b1)])) (s₁.setTop (entryFrame m #[(.int x0), (.int xpa), (.int xpb), (.int xpc), (.int xr1), (.int xr2)] maxLocals)) := fun t kt => st4 t (ls5 t kt)
      have st10 : own_Go p e below (T5.setTop (mkF m 110 #[.val (.int x0), .val (.int xpa), .val (.int xpb), .val (.int xpc), .val (.int xr1), .val (.int xr2), .val (.int n1), .val (.int n2), .val (.int (0 : Int32)), .val (.int (0 : Int32)), .val (.int r1), .val (.int r2), .val (.int n1), .val (.int ia), .val (.int ib), .val (.int ic), .unset, .unset, .unset] [(.ref b1), (.ref b1)])) (s₁.setTop (entryFrame m #[(.int x0), (.int xpa), (.int xpb), (.int xpc), (.int xr1), (.int xr2)] maxLocals)) := fun t kt => st9 t (by
        show Steps p.tables e below (T5.setTop (mkF m 109 #[.val (.int x0), .val (.int xpa), .val (.int xpb), .val (.int xpc), .val (.int xr1), .val (.int xr2), .val (.int n1), .val (.int n2), .val (.int (0 : Int32)), .val (.int (0 : Int32)), .val (.int r1), .val (.int r2), .val (.int n1), .val (.int ia), .val (.int ib), .val (.int ic), .unset, .unset, .unset] [(.ref b1)])) _
        refine XS.dup X5.here hx rfl (hb hby at_109) rfl rfl ?_
        show Steps p.tables e below (T5.setTop (mkF m 110 #[.val (.int x0), .val (.int xpa), .val (.int xpb), .val (.int xpc), .val (.int xr1), .val (.int xr2), .val (.int n1), .val (.int n2), .val (.int (0 : Int32)), .val (.int (0 : Int32)), .val (.int r1), .val (.int r2), .val (.int n1), .val (.int ia), .val (.int ib), .val (.int ic), .unset, .unset, .unset] [(.ref b1), (.ref b1)])) _
        exact kt)
      obtain ⟨_, _, ⟨T11, L11, k11, n11⟩, -, X11, ⟨Lc11, hQ11, l11, y11, z11⟩, ls11⟩ := X5.specialBack hx (y := (⟨"com/example/saturation/saturation/WalkMemo", "<init>", "()V"⟩ : MethodName)) rfl hown (mvT hZ (hw _ (List.mem_of_getElem? (i := 4) rfl))) (mvT hZ (hw _ (List.mem_of_getElem? (i := 5) rfl))) (mvT hZ (hw _ (List.mem_of_getElem? (i := 6) rfl))) (by decide) (backOf (W := 1) (rm_init l Z a0 hw [] b1 h5 n0 z6 A5 f8 f7 g_b1) hZ (hw _ (List.mem_of_getElem? (i := 6) rfl)) (hw _ (List.mem_of_getElem? (i := 3) rfl)) (by decide) (by decide)) (g := (mkF m 110 #[.val (.int x0), .val (.int xpa), .val (.int xpb), .val (.int xpc), .val (.int xr1), .val (.int xr2), .val (.int n1), .val (.int n2), .val (.int (0 : Int32)), .val (.int (0 : Int32)), .val (.int r1), .val (.int r2), .val (.int n1), .val (.int ia), .val (.int ib), .val (.int ic), .unset, .unset, .unset] [(.ref b1), (.ref b1)])) rfl (by rw [hml]; rfl) (Steps.refl _) (a := b1) (argsL := []) (rest := [(.ref b1)]) (lenOf own_pd2 rfl) rfl (by show 2 * 0 + _ ≤ _; exact Nat.le_of_eq rfl) (hb hby at_110) (fun _ _ => ⟨rfl, e5, (by decide : 1 + 1 ≤ _), (by decide : 2 + 0 ≤ _)⟩)
      dsimp only [Pt.U, Pt.locs, Pt.cells, Pt.slots] at X11 l11 y11 z11 ls11 hQ11
      subst l11 y11 z11
      obtain ⟨rfl, Nq11, Zq11, Mq11⟩ := hQ11
      have N11 := Fr.app N0 Nq11
      have st12 : own_Go p e below (T11.setTop (mkF m 113 #[.val (.int x0), .val (.int xpa), .val (.int xpb), .val (.int xpc), .val (.int xr1), .val (.int xr2), .val (.int n1), .val (.int n2), .val (.int (0 : Int32)), .val (.int (0 : Int32)), .val (.int r1), .val (.int r2), .val (.int n1), .val (.int ia), .val (.int ib), .val (.int ic), .unset, .unset, .unset] [(.ref b1)])) (s₁.setTop (entryFrame m #[(.int x0), (.int xpa), (.int xpb), (.int xpc), (.int xr1), (.int xr2)] maxLocals)) := fun t kt => st10 t (ls11.trans kt)
      have Eq11 := Mq11.1
      have st13 : own_Go p e below (T11.setTop (mkF m 119 #[.val (.int x0), .val (.int xpa), .val (.int xpb), .val (.int xpc), .val (.int xr1), .val (.int xr2), .val (.int n1), .val (.int n2), .val (.int (0 : Int32)), .val (.int (0 : Int32)), .val (.int r1), .val (.int r2), .val (.int n1), .val (.int ia), .val (.int ib), .val (.int ic), .val (.ref b1), .unset, .unset] [(.int n1), (.ref b1)])) (s₁.setTop (entryFrame m #[(.int x0), (.int xpa), (.int xpb), (.int xpc), (.int xr1), (.int xr2)] maxLocals)) := fun t kt => st12 t (by
        show Steps p.tables e below (T11.setTop (mkF m 113 #[.val (.int x0), .val (.int xpa), .val (.int xpb), .val (.int xpc), .val (.int xr1), .val (.int xr2), .val (.int n1), .val (.int n2), .val (.int (0 : Int32)), .val (.int (0 : Int32)), .val (.int r1), .val (.int r2), .val (.int n1), .val (.int ia), .val (.int ib), .val (.int ic), .unset, .unset, .unset] [(.ref b1)])) _
        refine XS.astore X11.here hx rfl (hb hby at_113) rfl rfl (l' := #[.val (.int x0), .val (.int xpa), .val (.int xpb), .val (.int xpc), .val (.int xr1), .val (.int xr2), .val (.int n1), .val (.int n2), .val (.int (0 : Int32)), .val (.int (0 : Int32)), .val (.int r1), .val (.int r2), .val (.int n1), .val (.int ia), .val (.int ib), .val (.int ic), .val (.ref b1), .unset, .unset]) rfl ?_
        show Steps p.tables e below (T11.setTop (mkF m 115 #[.val (.int x0), .val (.int xpa), .val (.int xpb), .val (.int xpc), .val (.int xr1), .val (.int xr2), .val (.int n1), .val (.int n2), .val (.int (0 : Int32)), .val (.int (0 : Int32)), .val (.int r1), .val (.int r2), .val (.int n1), .val (.int ia), .val (.int ib), .val (.int ic), .val (.ref b1), .unset, .unset] [])) _
        refine XS.aload X11.here hx rfl (hb hby at_115) rfl rfl ?_
        show Steps p.tables e below (T11.setTop (mkF m 117 #[.val (.int x0), .val (.int xpa), .val (.int xpb), .val (.int xpc), .val (.int xr1), .val (.int xr2), .val (.int n1), .val (.int n2), .val (.int (0 : Int32)), .val (.int (0 : Int32)), .val (.int r1), .val (.int r2), .val (.int n1), .val (.int ia), .val (.int ib), .val (.int ic), .val (.ref b1), .unset, .unset] [(.ref b1)])) _
        refine XS.iload X11.here hx rfl (hb hby at_117) rfl ?_
        show Steps p.tables e below (T11.setTop (mkF m 119 #[.val (.int x0), .val (.int xpa), .val (.int xpb), .val (.int xpc), .val (.int xr1), .val (.int xr2), .val (.int n1), .val (.int n2), .val (.int (0 : Int32)), .val (.int (0 : Int32)), .val (.int r1), .val (.int r2), .val (.int n1), .val (.int ia), .val (.int ib), .val (.int ic), .val (.ref b1), .unset, .unset] [(.int n1), (.ref b1)])) _
        exact kt)
      obtain ⟨cq14, kq14, q14a, q14b, q14c⟩ := isOf hZ rfl Eq11
      obtain ⟨_, _, ⟨T14, L14, k14, n14⟩, -, X14, ⟨Lc14, hQ14, l14, y14, z14⟩, ls14⟩ := X11.virtualBack hx (y := (⟨"com/example/saturation/saturation/WalkMemo", "start", "(I)V"⟩ : MethodName)) (z := (⟨"com/example/saturation/saturation/WalkMemo", "start", "(I)V"⟩ : MethodName)) hown (mvT hZ (hw _ (List.mem_of_getElem? (i := 13) rfl))) (mvT hZ (hw _ (List.mem_of_getElem? (i := 14) rfl))) (notFace_of_selects (args := #[]) (mvT hZ (hw _ (List.mem_of_getElem? (i := 16) rfl)))) (mvT hZ (hw _ (List.mem_of_getElem? (i := 16) rfl))) (mvT hZ (hw _ (List.mem_of_getElem? (i := 15) rfl))) (by decide) (backOf (W := 0) (rm_start l Z a0 hw [] b1 n1 ((0 : Int32)) 0 ((fun _ => (0 : Int64))) N1 T11.heap n0 Zq11 Mq11 hnn1 hN1 (by omega) (by omega) (by omega) (by decide)) hZ (hw _ (List.mem_of_getElem? (i := 17) rfl)) (hw _ (List.mem_of_getElem? (i := 3) rfl)) (by decide) (by decide)) q14a q14c (g := (mkF m 119 #[.val (.int x0), .val (.int xpa), .val (.int xpb), .val (.int xpc), .val (.int xr1), .val (.int xr2), .val (.int n1), .val (.int n2), .val (.int (0 : Int32)), .val (.int (0 : Int32)), .val (.int r1), .val (.int r2), .val (.int n1), .val (.int ia), .val (.int ib), .val (.int ic), .val (.ref b1), .unset, .unset] [(.int n1), (.ref b1)])) rfl (by rw [hml]; rfl) (Steps.refl _) (argsL := [(.int n1)]) (rest := []) (lenOf own_pd3 rfl) rfl (by show 2 * 0 + _ ≤ _; exact Nat.le_of_eq rfl) (hb hby at_119) (fun _ _ => ⟨rfl, rfl, (by decide : 2 + 1 ≤ _), (by decide : 2 + 16 ≤ _)⟩)
      dsimp only [Pt.U, Pt.locs, Pt.cells, Pt.slots] at X14 l14 y14 z14 ls14 hQ14
      subst l14 y14 z14
      obtain ⟨rfl, Nq14, Zq14, Mq14⟩ := hQ14
      have N14 := Fr.app N11 Nq14
      have st15 : own_Go p e below (T14.setTop (mkF m 122 #[.val (.int x0), .val (.int xpa), .val (.int xpb), .val (.int xpc), .val (.int xr1), .val (.int xr2), .val (.int n1), .val (.int n2), .val (.int (0 : Int32)), .val (.int (0 : Int32)), .val (.int r1), .val (.int r2), .val (.int n1), .val (.int ia), .val (.int ib), .val (.int ic), .val (.ref b1), .unset, .unset] [])) (s₁.setTop (entryFrame m #[(.int x0), (.int xpa), (.int xpb), (.int xpc), (.int xr1), (.int xr2)] maxLocals)) := fun t kt => st13 t (ls14.trans kt)
      have Eq14 := Mq14.1
      have m16 := own_M.to (st' := (1 : Int32)) (n' := N1) (f' := (fun _ => (0 : Int64))) Mq14 (by decide) (by unfold own_nl; rw [if_pos (by omega)]; omega) (fun q hq => by simp)
      have st17 : own_Go p e below (T14.setTop (mkF m 128 #[.val (.int x0), .val (.int xpa), .val (.int xpb), .val (.int xpc), .val (.int xr1), .val (.int xr2), .val (.int n1), .val (.int n2), .val (.int (0 : Int32)), .val (.int (0 : Int32)), .val (.int r1), .val (.int r2), .val (.int n1), .val (.int ia), .val (.int ib), .val (.int ic), .val (.ref b1), .unset, .unset] [(.int r1), (.int ia), (.ref b1)])) (s₁.setTop (entryFrame m #[(.int x0), (.int xpa), (.int xpb), (.int xpc), (.int xr1), (.int xr2)] maxLocals)) := fun t kt => st15 t (by
        show Steps p.tables e below (T14.setTop (mkF m 122 #[.val (.int x0), .val (.int xpa), .val (.int xpb), .val (.int xpc), .val (.int xr1), .val (.int xr2), .val (.int n1), .val (.int n2), .val (.int (0 : Int32)), .val (.int (0 : Int32)), .val (.int r1), .val (.int r2), .val (.int n1), .val (.int ia), .val (.int ib), .val (.int ic), .val (.ref b1), .unset, .unset] [])) _
        refine XS.aload X14.here hx rfl (hb hby at_122) rfl rfl ?_
        show Steps p.tables e below (T14.setTop (mkF m 124 #[.val (.int x0), .val (.int xpa), .val (.int xpb), .val (.int xpc), .val (.int xr1), .val (.int xr2), .val (.int n1), .val (.int n2), .val (.int (0 : Int32)), .val (.int (0 : Int32)), .val (.int r1), .val (.int r2), .val (.int n1), .val (.int ia), .val (.int ib), .val (.int ic), .val (.ref b1), .unset, .unset] [(.ref b1)])) _
        refine XS.iload X14.here hx rfl (hb hby at_124) rfl ?_
        show Steps p.tables e below (T14.setTop (mkF m 126 #[.val (.int x0), .val (.int xpa), .val (.int xpb), .val (.int xpc), .val (.int xr1), .val (.int xr2), .val (.int n1), .val (.int n2), .val (.int (0 : Int32)), .val (.int (0 : Int32)), .val (.int r1), .val (.int r2), .val (.int n1), .val (.int ia), .val (.int ib), .val (.int ic), .val (.ref b1), .unset, .unset] [(.int ia), (.ref b1)])) _
        refine XS.iload X14.here hx rfl (hb hby at_126) rfl ?_
        show Steps p.tables e below (T14.setTop (mkF m 128 #[.val (.int x0), .val (.int xpa), .val (.int xpb), .val (.int xpc), .val (.int xr1), .val (.int xr2), .val (.int n1), .val (.int n2), .val (.int (0 : Int32)), .val (.int (0 : Int32)), .val (.int r1), .val (.int r2), .val (.int n1), .val (.int ia), .val (.int ib), .val (.int ic), .val (.ref b1), .unset, .unset] [(.int r1), (.int ia), (.ref b1)])) _
        exact kt)
      obtain ⟨cq18, kq18, q18a, q18b, q18c⟩ := isOf hZ rfl Eq14
      obtain ⟨_, _, ⟨T18, L18, k18, n18⟩, -, X18, ⟨Lc18, hQ18, l18, y18, z18⟩, ls18⟩ := X14.virtualBack hx (y := (⟨"com/example/saturation/saturation/WalkMemo", "put", "(II)V"⟩ : MethodName)) (z := (⟨"com/example/saturation/saturation/WalkMemo", "put", "(II)V"⟩ : MethodName)) hown (mvT hZ (hw _ (List.mem_of_getElem? (i := 35) rfl))) (mvT hZ (hw _ (List.mem_of_getElem? (i := 36) rfl))) (notFace_of_selects (args := #[]) (mvT hZ (hw _ (List.mem_of_getElem? (i := 38) rfl)))) (mvT hZ (hw _ (List.mem_of_getElem? (i := 38) rfl))) (mvT hZ (hw _ (List.mem_of_getElem? (i := 37) rfl))) (by decide) (backOf (W := 0) (rm_put l Z a0 hw [] b1 ia r1 ((1 : Int32)) N1 ((fun _ => (0 : Int64))) i T14.heap n0 Zq14 m16 i_ia.1 hk_ia i_ia.2) hZ (hw _ (List.mem_of_getElem? (i := 39) rfl)) (hw _ (List.mem_of_getElem? (i := 3) rfl)) (by decide) (by decide)) q18a q18c (g := (mkF m 128 #[.val (.int x0), .val (.int xpa), .val (.int xpb), .val (.int xpc), .val (.int xr1), .val (.int xr2), .val (.int n1), .val (.int n2), .val (.int (0 : Int32)), .val (.int (0 : Int32)), .val (.int r1), .val (.int r2), .val (.int n1), .val (.int ia), .val (.int ib), .val (.int ic), .val (.ref b1), .unset, .unset] [(.int r1), (.int ia), (.ref b1)])) rfl (by rw [hml]; rfl) (Steps.refl _) (argsL := [(.int ia), (.int r1)]) (rest := []) (lenOf own_pd4 rfl) rfl (by show 2 * 0 + _ ≤ _; exact Nat.le_of_eq rfl) (hb hby at_128) (fun _ _ => ⟨rfl, rfl, (by decide : 3 + 0 ≤ _), (by decide : 18 + 0 ≤ _)⟩)
      dsimp only [Pt.U, Pt.locs, Pt.cells, Pt.slots] at X18 l18 y18 z18 ls18 hQ18
      subst l18 y18 z18
      obtain ⟨rfl, Nq18, Zq18, Mq18⟩ := hQ18
      have N18 := Fr.app N14 Nq18
      have st19 : own_Go p e below (T18.setTop (mkF m 131 #[.val (.int x0), .val (.int xpa), .val (.int xpb), .val (.int xpc), .val (.int xr1), .val (.int xr2), .val (.int n1), .val (.int n2), .val (.int (0 : Int32)), .val (.int (0 : Int32)), .val (.int r1), .val (.int r2), .val (.int n1), .val (.int ia), .val (.int ib), .val (.int ic), .val (.ref b1), .unset, .unset] [])) (s₁.setTop (entryFrame m #[(.int x0), (.int xpa), (.int xpb), (.int xpc), (.int xr1), (.int xr2)] maxLocals)) := fun t kt => st17 t (ls18.trans kt)
      have Eq18 := Mq18.1
      have m20 := own_M.to (st' := (1 : Int32)) (n' := N1) (f' := (fun q => if q = i then own_enc 1 r1 else 0)) Mq18 (rfl) (rfl) (fun _ _ => rfl)
      have hc21 : (0 : Int32) = (0 : Int32) := rfl
      have hc22 : (0 : Int32) = (0 : Int32) := rfl
      have st23 : own_Go p e below (T18.setTop (mkF m 161 #[.val (.int x0), .val (.int xpa), .val (.int xpb), .val (.int xpc), .val (.int xr1), .val (.int xr2), .val (.int n1), .val (.int n2), .val (.int (0 : Int32)), .val (.int (0 : Int32)), .val (.int r1), .val (.int r2), .val (.int n1), .val (.int ia), .val (.int ib), .val (.int ic), .val (.ref b1), .unset, .unset] [(.int ic), (.ref b1)])) (s₁.setTop (entryFrame m #[(.int x0), (.int xpa), (.int xpb), (.int xpc), (.int xr1), (.int xr2)] maxLocals)) := fun t kt => st19 t (by
        show Steps p.tables e below (T18.setTop (mkF m 131 #[.val (.int x0), .val (.int xpa), .val (.int xpb), .val (.int xpc), .val (.int xr1), .val (.int xr2), .val (.int n1), .val (.int n2), .val (.int (0 : Int32)), .val (.int (0 : Int32)), .val (.int r1), .val (.int r2), .val (.int n1), .val (.int ia), .val (.int ib), .val (.int ic), .val (.ref b1), .unset, .unset] [])) _
        refine XS.iload X18.here hx rfl (hb hby at_131) rfl ?_
        show Steps p.tables e below (T18.setTop (mkF m 133 #[.val (.int x0), .val (.int xpa), .val (.int xpb), .val (.int xpc), .val (.int xr1), .val (.int xr2), .val (.int n1), .val (.int n2), .val (.int (0 : Int32)), .val (.int (0 : Int32)), .val (.int r1), .val (.int r2), .val (.int n1), .val (.int ia), .val (.int ib), .val (.int ic), .val (.ref b1), .unset, .unset] [(.int (0 : Int32))])) _
        refine XS.ifYes X18.here hx rfl (pc0 := 133) (pc' := 143) rfl (hb hby at_133) rfl ((if0 _ _).trans (teq hc21).1) (by decide) (by decide) ?_
        show Steps p.tables e below (T18.setTop (mkF m 143 #[.val (.int x0), .val (.int xpa), .val (.int xpb), .val (.int xpc), .val (.int xr1), .val (.int xr2), .val (.int n1), .val (.int n2), .val (.int (0 : Int32)), .val (.int (0 : Int32)), .val (.int r1), .val (.int r2), .val (.int n1), .val (.int ia), .val (.int ib), .val (.int ic), .val (.ref b1), .unset, .unset] [])) _
        refine XS.iload X18.here hx rfl (hb hby at_143) rfl ?_
        show Steps p.tables e below (T18.setTop (mkF m 145 #[.val (.int x0), .val (.int xpa), .val (.int xpb), .val (.int xpc), .val (.int xr1), .val (.int xr2), .val (.int n1), .val (.int n2), .val (.int (0 : Int32)), .val (.int (0 : Int32)), .val (.int r1), .val (.int r2), .val (.int n1), .val (.int ia), .val (.int ib), .val (.int ic), .val (.ref b1), .unset, .unset] [(.int (0 : Int32))])) _
        refine XS.ifYes X18.here hx rfl (pc0 := 145) (pc' := 157) rfl (hb hby at_145) rfl ((if0 _ _).trans (teq hc22).1) (by decide) (by decide) ?_
        show Steps p.tables e below (T18.setTop (mkF m 157 #[.val (.int x0), .val (.int xpa), .val (.int xpb), .val (.int xpc), .val (.int xr1), .val (.int xr2), .val (.int n1), .val (.int n2), .val (.int (0 : Int32)), .val (.int (0 : Int32)), .val (.int r1), .val (.int r2), .val (.int n1), .val (.int ia), .val (.int ib), .val (.int ic), .val (.ref b1), .unset, .unset] [])) _
        refine XS.aload X18.here hx rfl (hb hby at_157) rfl rfl ?_
        show Steps p.tables e below (T18.setTop (mkF m 159 #[.val (.int x0), .val (.int xpa), .val (.int xpb), .val (.int xpc), .val (.int xr1), .val (.int xr2), .val (.int n1), .val (.int n2), .val (.int (0 : Int32)), .val (.int (0 : Int32)), .val (.int r1), .val (.int r2), .val (.int n1), .val (.int ia), .val (.int ib), .val (.int ic), .val (.ref b1), .unset, .unset] [(.ref b1)])) _
        refine XS.iload X18.here hx rfl (hb hby at_159) rfl ?_
        show Steps p.tables e below (T18.setTop (mkF m 161 #[.val (.int x0), .val (.int xpa), .val (.int xpb), .val (.int xpc), .val (.int xr1), .val (.int xr2), .val (.int n1), .val (.int n2), .val (.int (0 : Int32)), .val (.int (0 : Int32)), .val (.int r1), .val (.int r2), .val (.int n1), .val (.int ia), .val (.int ib), .val (.int ic), .val (.ref b1), .unset, .unset] [(.int ic), (.ref b1)])) _
        exact kt)
      obtain ⟨cq24, kq24, q24a, q24b, q24c⟩ := isOf hZ rfl Eq18
      obtain ⟨_, _, ⟨T24, L24, k24, n24⟩, -, X24, ⟨Lc24, hQ24, l24, y24, z24⟩, ls24⟩ := X18.virtualBack hx (y := (⟨"com/example/saturation/saturation/WalkMemo", "get", "(I)I"⟩ : MethodName)) (z := (⟨"com/example/saturation/saturation/WalkMemo", "get", "(I)I"⟩ : MethodName)) hown (mvT hZ (hw _ (List.mem_of_getElem? (i := 40) rfl))) (mvT hZ (hw _ (List.mem_of_getElem? (i := 41) rfl))) (notFace_of_selects (args := #[]) (mvT hZ (hw _ (List.mem_of_getElem? (i := 43) rfl)))) (mvT hZ (hw _ (List.mem_of_getElem? (i := 43) rfl))) (mvT hZ (hw _ (List.mem_of_getElem? (i := 42) rfl))) (by decide) (backOf (W := 0) (rm_get l Z a0 hw [] b1 ic ((1 : Int32)) N1 ((fun q => if q = i then own_enc 1 r1 else 0)) k T18.heap n0 Zq18 m20 i_ic.1 hk_ic i_ic.2) hZ (hw _ (List.mem_of_getElem? (i := 44) rfl)) (hw _ (List.mem_of_getElem? (i := 3) rfl)) (by decide) (by decide)) q24a q24c (g := (mkF m 161 #[.val (.int x0), .val (.int xpa), .val (.int xpb), .val (.int xpc), .val (.int xr1), .val (.int xr2), .val (.int n1), .val (.int n2), .val (.int (0 : Int32)), .val (.int (0 : Int32)), .val (.int r1), .val (.int r2), .val (.int n1), .val (.int ia), .val (.int ib), .val (.int ic), .val (.ref b1), .unset, .unset] [(.int ic), (.ref b1)])) rfl (by rw [hml]; rfl) (Steps.refl _) (argsL := [(.int ic)]) (rest := []) (lenOf own_pd5 rfl) rfl (by show 2 * 0 + _ ≤ _; exact Nat.le_of_eq rfl) (hb hby at_161) (fun _ _ => ⟨rfl, rfl, (by decide : 3 + 0 ≤ _), (by decide : 18 + 0 ≤ _)⟩)
      dsimp only [Pt.U, Pt.locs, Pt.cells, Pt.slots] at X24 l24 y24 z24 ls24 hQ24
      subst l24 y24 z24
      obtain ⟨rfl, Nq24, eq24⟩ := hQ24
      have N24 := Fr.app N18 Nq24
      have st25 : own_Go p e below (T24.setTop (mkF m 164 #[.val (.int x0), .val (.int xpa), .val (.int xpb), .val (.int xpc), .val (.int xr1), .val (.int xr2), .val (.int n1), .val (.int n2), .val (.int (0 : Int32)), .val (.int (0 : Int32)), .val (.int r1), .val (.int r2), .val (.int n1), .val (.int ia), .val (.int ib), .val (.int ic), .val (.ref b1), .unset, .unset] [(.int (own_get (1 : Int32) ((fun q => if q = i then own_enc 1 r1 else 0) k)))])) (s₁.setTop (entryFrame m #[(.int x0), (.int xpa), (.int xpb), (.int xpc), (.int xr1), (.int xr2)] maxLocals)) := fun t kt => st23 t (ls24.trans kt)
      have st26 : own_Go p e below (T24.setTop (mkF m 170 #[.val (.int x0), .val (.int xpa), .val (.int xpb), .val (.int xpc), .val (.int xr1), .val (.int xr2), .val (.int n1), .val (.int n2), .val (.int (0 : Int32)), .val (.int (0 : Int32)), .val (.int r1), .val (.int r2), .val (.int n1), .val (.int ia), .val (.int ib), .val (.int ic), .val (.ref b1), .val (.int (own_get (1 : Int32) ((fun q => if q = i then own_enc 1 r1 else 0) k))), .unset] [(.int ia), (.ref b1)])) (s₁.setTop (entryFrame m #[(.int x0), (.int xpa), (.int xpb), (.int xpc), (.int xr1), (.int xr2)] maxLocals)) := fun t kt => st25 t (by
        show Steps p.tables e below (T24.setTop (mkF m 164 #[.val (.int x0), .val (.int xpa), .val (.int xpb), .val (.int xpc), .val (.int xr1), .val (.int xr2), .val (.int n1), .val (.int n2), .val (.int (0 : Int32)), .val (.int (0 : Int32)), .val (.int r1), .val (.int r2), .val (.int n1), .val (.int ia), .val (.int ib), .val (.int ic), .val (.ref b1), .unset, .unset] [(.int (own_get (1 : Int32) ((fun q => if q = i then own_enc 1 r1 else 0) k)))])) _
        refine XS.istore X24.here hx rfl (hb hby at_164) rfl (l' := #[.val (.int x0), .val (.int xpa), .val (.int xpb), .val (.int xpc), .val (.int xr1), .val (.int xr2), .val (.int n1), .val (.int n2), .val (.int (0 : Int32)), .val (.int (0 : Int32)), .val (.int r1), .val (.int r2), .val (.int n1), .val (.int ia), .val (.int ib), .val (.int ic), .val (.ref b1), .val (.int (own_get (1 : Int32) ((fun q => if q = i then own_enc 1 r1 else 0) k))), .unset]) rfl ?_
        show Steps p.tables e below (T24.setTop (mkF m 166 #[.val (.int x0), .val (.int xpa), .val (.int xpb), .val (.int xpc), .val (.int xr1), .val (.int xr2), .val (.int n1), .val (.int n2), .val (.int (0 : Int32)), .val (.int (0 : Int32)), .val (.int r1), .val (.int r2), .val (.int n1), .val (.int ia), .val (.int ib), .val (.int ic), .val (.ref b1), .val (.int (own_get (1 : Int32) ((fun q => if q = i then own_enc 1 r1 else 0) k))), .unset] [])) _
        refine XS.aload X24.here hx rfl (hb hby at_166) rfl rfl ?_
        show Steps p.tables e below (T24.setTop (mkF m 168 #[.val (.int x0), .val (.int xpa), .val (.int xpb), .val (.int xpc), .val (.int xr1), .val (.int xr2), .val (.int n1), .val (.int n2), .val (.int (0 : Int32)), .val (.int (0 : Int32)), .val (.int r1), .val (.int r2), .val (.int n1), .val (.int ia), .val (.int ib), .val (.int ic), .val (.ref b1), .val (.int (own_get (1 : Int32) ((fun q => if q = i then own_enc 1 r1 else 0) k))), .unset] [(.ref b1)])) _
        refine XS.iload X24.here hx rfl (hb hby at_168) rfl ?_
        show Steps p.tables e below (T24.setTop (mkF m 170 #[.val (.int x0), .val (.int xpa), .val (.int xpb), .val (.int xpc), .val (.int xr1), .val (.int xr2), .val (.int n1), .val (.int n2), .val (.int (0 : Int32)), .val (.int (0 : Int32)), .val (.int r1), .val (.int r2), .val (.int n1), .val (.int ia), .val (.int ib), .val (.int ic), .val (.ref b1), .val (.int (own_get (1 : Int32) ((fun q => if q = i then own_enc 1 r1 else 0) k))), .unset] [(.int ia), (.ref b1)])) _
        exact kt)
      obtain ⟨cq27, kq27, q27a, q27b, q27c⟩ := isOf hZ eq24 Eq18
      obtain ⟨_, _, ⟨T27, L27, k27, n27⟩, -, X27, ⟨Lc27, hQ27, l27, y27, z27⟩, ls27⟩ := X24.virtualBack hx (y := (⟨"com/example/saturation/saturation/WalkMemo", "get", "(I)I"⟩ : MethodName)) (z := (⟨"com/example/saturation/saturation/WalkMemo", "get", "(I)I"⟩ : MethodName)) hown (mvT hZ (hw _ (List.mem_of_getElem? (i := 40) rfl))) (mvT hZ (hw _ (List.mem_of_getElem? (i := 41) rfl))) (notFace_of_selects (args := #[]) (mvT hZ (hw _ (List.mem_of_getElem? (i := 43) rfl)))) (mvT hZ (hw _ (List.mem_of_getElem? (i := 43) rfl))) (mvT hZ (hw _ (List.mem_of_getElem? (i := 42) rfl))) (by decide) (backOf (W := 0) (rm_get l Z a0 hw [] b1 ia ((1 : Int32)) N1 ((fun q => if q = i then own_enc 1 r1 else 0)) i T18.heap n0 Zq18 m20 i_ia.1 hk_ia i_ia.2) hZ (hw _ (List.mem_of_getElem? (i := 44) rfl)) (hw _ (List.mem_of_getElem? (i := 3) rfl)) (by decide) (by decide)) q27a q27c (g := (mkF m 170 #[.val (.int x0), .val (.int xpa), .val (.int xpb), .val (.int xpc), .val (.int xr1), .val (.int xr2), .val (.int n1), .val (.int n2), .val (.int (0 : Int32)), .val (.int (0 : Int32)), .val (.int r1), .val (.int r2), .val (.int n1), .val (.int ia), .val (.int ib), .val (.int ic), .val (.ref b1), .val (.int (own_get (1 : Int32) ((fun q => if q = i then own_enc 1 r1 else 0) k))), .unset] [(.int ia), (.ref b1)])) rfl (by rw [hml]; rfl) (Steps.refl _) (argsL := [(.int ia)]) (rest := []) (lenOf own_pd5 rfl) rfl (by show 2 * 0 + _ ≤ _; exact Nat.le_of_eq rfl) (hb hby at_170) (fun _ _ => ⟨rfl, eq24, (by decide : 3 + 0 ≤ _), (by decide : 18 + 0 ≤ _)⟩)
      dsimp only [Pt.U, Pt.locs, Pt.cells, Pt.slots] at X27 l27 y27 z27 ls27 hQ27
      subst l27 y27 z27
      obtain ⟨rfl, Nq27, eq27⟩ := hQ27
      have N27 := Fr.app N24 Nq27
      have st28 : own_Go p e below (T27.setTop (mkF m 173 #[.val (.int x0), .val (.int xpa), .val (.int xpb), .val (.int xpc), .val (.int xr1), .val (.int xr2), .val (.int n1), .val (.int n2), .val (.int (0 : Int32)), .val (.int (0 : Int32)), .val (.int r1), .val (.int r2), .val (.int n1), .val (.int ia), .val (.int ib), .val (.int ic), .val (.ref b1), .val (.int (own_get (1 : Int32) ((fun q => if q = i then own_enc 1 r1 else 0) k))), .unset] [(.int (own_get (1 : Int32) ((fun q => if q = i then own_enc 1 r1 else 0) i)))])) (s₁.setTop (entryFrame m #[(.int x0), (.int xpa), (.int xpb), (.int xpc), (.int xr1), (.int xr2)] maxLocals)) := fun t kt => st26 t (ls27.trans kt)
      have st29 : own_Go p e below (T27.setTop (mkF m 191 #[.val (.int x0), .val (.int xpa), .val (.int xpb), .val (.int xpc), .val (.int xr1), .val (.int xr2), .val (.int n1), .val (.int n2), .val (.int (0 : Int32)), .val (.int (0 : Int32)), .val (.int r1), .val (.int r2), .val (.int n1), .val (.int ia), .val (.int ib), .val (.int ic), .val (.ref b1), .val (.int (own_get (1 : Int32) ((fun q => if q = i then own_enc 1 r1 else 0) k))), .val (.int (own_get (1 : Int32) ((fun q => if q = i then own_enc 1 r1 else 0) i)))] [(.int r2), (.int r1), (.int (0 : Int32)), (.int (0 : Int32)), (.int ib), (.int ia), (.int ic), (.int (own_get (1 : Int32) ((fun q => if q = i then own_enc 1 r1 else 0) k)))])) (s₁.setTop (entryFrame m #[(.int x0), (.int xpa), (.int xpb), (.int xpc), (.int xr1), (.int xr2)] maxLocals)) := fun t kt => st28 t (by
        show Steps p.tables e below (T27.setTop (mkF m 173 #[.val (.int x0), .val (.int xpa), .val (.int xpb), .val (.int xpc), .val (.int xr1), .val (.int xr2), .val (.int n1), .val (.int n2), .val (.int (0 : Int32)), .val (.int (0 : Int32)), .val (.int r1), .val (.int r2), .val (.int n1), .val (.int ia), .val (.int ib), .val (.int ic), .val (.ref b1), .val (.int (own_get (1 : Int32) ((fun q => if q = i then own_enc 1 r1 else 0) k))), .unset] [(.int (own_get (1 : Int32) ((fun q => if q = i then own_enc 1 r1 else 0) i)))])) _
        refine XS.istore X27.here hx rfl (hb hby at_173) rfl (l' := #[.val (.int x0), .val (.int xpa), .val (.int xpb), .val (.int xpc), .val (.int xr1), .val (.int xr2), .val (.int n1), .val (.int n2), .val (.int (0 : Int32)), .val (.int (0 : Int32)), .val (.int r1), .val (.int r2), .val (.int n1), .val (.int ia), .val (.int ib), .val (.int ic), .val (.ref b1), .val (.int (own_get (1 : Int32) ((fun q => if q = i then own_enc 1 r1 else 0) k))), .val (.int (own_get (1 : Int32) ((fun q => if q = i then own_enc 1 r1 else 0) i)))]) rfl ?_
        show Steps p.tables e below (T27.setTop (mkF m 175 #[.val (.int x0), .val (.int xpa), .val (.int xpb), .val (.int xpc), .val (.int xr1), .val (.int xr2), .val (.int n1), .val (.int n2), .val (.int (0 : Int32)), .val (.int (0 : Int32)), .val (.int r1), .val (.int r2), .val (.int n1), .val (.int ia), .val (.int ib), .val (.int ic), .val (.ref b1), .val (.int (own_get (1 : Int32) ((fun q => if q = i then own_enc 1 r1 else 0) k))), .val (.int (own_get (1 : Int32) ((fun q => if q = i then own_enc 1 r1 else 0) i)))] [])) _
        refine XS.iload X27.here hx rfl (hb hby at_175) rfl ?_
        show Steps p.tables e below (T27.setTop (mkF m 177 #[.val (.int x0), .val (.int xpa), .val (.int xpb), .val (.int xpc), .val (.int xr1), .val (.int xr2), .val (.int n1), .val (.int n2), .val (.int (0 : Int32)), .val (.int (0 : Int32)), .val (.int r1), .val (.int r2), .val (.int n1), .val (.int ia), .val (.int ib), .val (.int ic), .val (.ref b1), .val (.int (own_get (1 : Int32) ((fun q => if q = i then own_enc 1 r1 else 0) k))), .val (.int (own_get (1 : Int32) ((fun q => if q = i then own_enc 1 r1 else 0) i)))] [(.int (own_get (1 : Int32) ((fun q => if q = i then own_enc 1 r1 else 0) k)))])) _
        refine XS.iload X27.here hx rfl (hb hby at_177) rfl ?_
        show Steps p.tables e below (T27.setTop (mkF m 179 #[.val (.int x0), .val (.int xpa), .val (.int xpb), .val (.int xpc), .val (.int xr1), .val (.int xr2), .val (.int n1), .val (.int n2), .val (.int (0 : Int32)), .val (.int (0 : Int32)), .val (.int r1), .val (.int r2), .val (.int n1), .val (.int ia), .val (.int ib), .val (.int ic), .val (.ref b1), .val (.int (own_get (1 : Int32) ((fun q => if q = i then own_enc 1 r1 else 0) k))), .val (.int (own_get (1 : Int32) ((fun q => if q = i then own_enc 1 r1 else 0) i)))] [(.int ic), (.int (own_get (1 : Int32) ((fun q => if q = i then own_enc 1 r1 else 0) k)))])) _
        refine XS.iload X27.here hx rfl (hb hby at_179) rfl ?_
        show Steps p.tables e below (T27.setTop (mkF m 181 #[.val (.int x0), .val (.int xpa), .val (.int xpb), .val (.int xpc), .val (.int xr1), .val (.int xr2), .val (.int n1), .val (.int n2), .val (.int (0 : Int32)), .val (.int (0 : Int32)), .val (.int r1), .val (.int r2), .val (.int n1), .val (.int ia), .val (.int ib), .val (.int ic), .val (.ref b1), .val (.int (own_get (1 : Int32) ((fun q => if q = i then own_enc 1 r1 else 0) k))), .val (.int (own_get (1 : Int32) ((fun q => if q = i then own_enc 1 r1 else 0) i)))] [(.int ia), (.int ic), (.int (own_get (1 : Int32) ((fun q => if q = i then own_enc 1 r1 else 0) k)))])) _
        refine XS.iload X27.here hx rfl (hb hby at_181) rfl ?_
        show Steps p.tables e below (T27.setTop (mkF m 183 #[.val (.int x0), .val (.int xpa), .val (.int xpb), .val (.int xpc), .val (.int xr1), .val (.int xr2), .val (.int n1), .val (.int n2), .val (.int (0 : Int32)), .val (.int (0 : Int32)), .val (.int r1), .val (.int r2), .val (.int n1), .val (.int ia), .val (.int ib), .val (.int ic), .val (.ref b1), .val (.int (own_get (1 : Int32) ((fun q => if q = i then own_enc 1 r1 else 0) k))), .val (.int (own_get (1 : Int32) ((fun q => if q = i then own_enc 1 r1 else 0) i)))] [(.int ib), (.int ia), (.int ic), (.int (own_get (1 : Int32) ((fun q => if q = i then own_enc 1 r1 else 0) k)))])) _
        refine XS.iload X27.here hx rfl (hb hby at_183) rfl ?_
        show Steps p.tables e below (T27.setTop (mkF m 185 #[.val (.int x0), .val (.int xpa), .val (.int xpb), .val (.int xpc), .val (.int xr1), .val (.int xr2), .val (.int n1), .val (.int n2), .val (.int (0 : Int32)), .val (.int (0 : Int32)), .val (.int r1), .val (.int r2), .val (.int n1), .val (.int ia), .val (.int ib), .val (.int ic), .val (.ref b1), .val (.int (own_get (1 : Int32) ((fun q => if q = i then own_enc 1 r1 else 0) k))), .val (.int (own_get (1 : Int32) ((fun q => if q = i then own_enc 1 r1 else 0) i)))] [(.int (0 : Int32)), (.int ib), (.int ia), (.int ic), (.int (own_get (1 : Int32) ((fun q => if q = i then own_enc 1 r1 else 0) k)))])) _
        refine XS.iload X27.here hx rfl (hb hby at_185) rfl ?_
        show Steps p.tables e below (T27.setTop (mkF m 187 #[.val (.int x0), .val (.int xpa), .val (.int xpb), .val (.int xpc), .val (.int xr1), .val (.int xr2), .val (.int n1), .val (.int n2), .val (.int (0 : Int32)), .val (.int (0 : Int32)), .val (.int r1), .val (.int r2), .val (.int n1), .val (.int ia), .val (.int ib), .val (.int ic), .val (.ref b1), .val (.int (own_get (1 : Int32) ((fun q => if q = i then own_enc 1 r1 else 0) k))), .val (.int (own_get (1 : Int32) ((fun q => if q = i then own_enc 1 r1 else 0) i)))] [(.int (0 : Int32)), (.int (0 : Int32)), (.int ib), (.int ia), (.int ic), (.int (own_get (1 : Int32) ((fun q => if q = i then own_enc 1 r1 else 0) k)))])) _
        refine XS.iload X27.here hx rfl (hb hby at_187) rfl ?_
        show Steps p.tables e below (T27.setTop (mkF m 189 #[.val (.int x0), .val (.int xpa), .val (.int xpb), .val (.int xpc), .val (.int xr1), .val (.int xr2), .val (.int n1), .val (.int n2), .val (.int (0 : Int32)), .val (.int (0 : Int32)), .val (.int r1), .val (.int r2), .val (.int n1), .val (.int ia), .val (.int ib), .val (.int ic), .val (.ref b1), .val (.int (own_get (1 : Int32) ((fun q => if q = i then own_enc 1 r1 else 0) k))), .val (.int (own_get (1 : Int32) ((fun q => if q = i then own_enc 1 r1 else 0) i)))] [(.int r1), (.int (0 : Int32)), (.int (0 : Int32)), (.int ib), (.int ia), (.int ic), (.int (own_get (1 : Int32) ((fun q => if q = i then own_enc 1 r1 else 0) k)))])) _
        refine XS.iload X27.here hx rfl (hb hby at_189) rfl ?_
        show Steps p.tables e below (T27.setTop (mkF m 191 #[.val (.int x0), .val (.int xpa), .val (.int xpb), .val (.int xpc), .val (.int xr1), .val (.int xr2), .val (.int n1), .val (.int n2), .val (.int (0 : Int32)), .val (.int (0 : Int32)), .val (.int r1), .val (.int r2), .val (.int n1), .val (.int ia), .val (.int ib), .val (.int ic), .val (.ref b1), .val (.int (own_get (1 : Int32) ((fun q => if q = i then own_enc 1 r1 else 0) k))), .val (.int (own_get (1 : Int32) ((fun q => if q = i then own_enc 1 r1 else 0) i)))] [(.int r2), (.int r1), (.int (0 : Int32)), (.int (0 : Int32)), (.int ib), (.int ia), (.int ic), (.int (own_get (1 : Int32) ((fun q => if q = i then own_enc 1 r1 else 0) k)))])) _
        exact kt)
      obtain ⟨_, _, ⟨T30, L30, k30, n30⟩, -, X30, ⟨Lc30, hQ30, l30, y30, z30⟩, ls30⟩ := Jvm.LawKit.callS X27 hx (y := (⟨"com/example/saturation/saturation/WalkMemoGetPinLaw", "expect", "(IIIZZII)I"⟩ : MethodName)) hown (mvT hZ (hw _ (List.mem_of_getElem? (i := 45) rfl))) (mvT hZ (hw _ (List.mem_of_getElem? (i := 46) rfl))) (mvT hZ (hw _ (List.mem_of_getElem? (i := 47) rfl))) (mvT hZ (hw _ (List.mem_of_getElem? (i := 48) rfl))) (by decide) (backOf (W := 1) (rm_exp l Z a0 hw [] ic ia ib ((0 : Int32)) ((0 : Int32)) r1 r2 T18.heap n0 Zq18) hZ (hw _ (List.mem_of_getElem? (i := 48) rfl)) (hw _ (List.mem_of_getElem? (i := 47) rfl)) (by decide) (by decide)) (g := (mkF m 191 #[.val (.int x0), .val (.int xpa), .val (.int xpb), .val (.int xpc), .val (.int xr1), .val (.int xr2), .val (.int n1), .val (.int n2), .val (.int (0 : Int32)), .val (.int (0 : Int32)), .val (.int r1), .val (.int r2), .val (.int n1), .val (.int ia), .val (.int ib), .val (.int ic), .val (.ref b1), .val (.int (own_get (1 : Int32) ((fun q => if q = i then own_enc 1 r1 else 0) k))), .val (.int (own_get (1 : Int32) ((fun q => if q = i then own_enc 1 r1 else 0) i)))] [(.int r2), (.int r1), (.int (0 : Int32)), (.int (0 : Int32)), (.int ib), (.int ia), (.int ic), (.int (own_get (1 : Int32) ((fun q => if q = i then own_enc 1 r1 else 0) k)))])) rfl (by rw [hml]; rfl) (argsL := [(.int ic), (.int ia), (.int ib), (.int (0 : Int32)), (.int (0 : Int32)), (.int r1), (.int r2)]) (rest := [(.int (own_get (1 : Int32) ((fun q => if q = i then own_enc 1 r1 else 0) k)))]) (lenOf own_pd6 rfl) rfl (by show 2 * 0 + _ ≤ _; exact Nat.le_of_eq rfl) (hb hby at_191) (fun _ _ => ⟨rfl, eq27, (by decide : 3 + 0 ≤ _), (by decide : 18 + 0 ≤ _)⟩)
      dsimp only [Pt.U, Pt.locs, Pt.cells, Pt.slots] at X30 l30 y30 z30 ls30 hQ30
      subst l30 y30 z30
      obtain ⟨rfl, Nq30, eq30⟩ := hQ30
      have N30 := Fr.app N27 Nq30
      have st31 : own_Go p e below (T30.setTop (mkF m 194 #[.val (.int x0), .val (.int xpa), .val (.int xpb), .val (.int xpc), .val (.int xr1), .val (.int xr2), .val (.int n1), .val (.int n2), .val (.int (0 : Int32)), .val (.int (0 : Int32)), .val (.int r1), .val (.int r2), .val (.int n1), .val (.int ia), .val (.int ib), .val (.int ic), .val (.ref b1), .val (.int (own_get (1 : Int32) ((fun q => if q = i then own_enc 1 r1 else 0) k))), .val (.int (own_get (1 : Int32) ((fun q => if q = i then own_enc 1 r1 else 0) i)))] [(.int (own_exp ic ia ib (0 : Int32) (0 : Int32) r1 r2)), (.int (own_get (1 : Int32) ((fun q => if q = i then own_enc 1 r1 else 0) k)))])) (s₁.setTop (entryFrame m #[(.int x0), (.int xpa), (.int xpb), (.int xpc), (.int xr1), (.int xr2)] maxLocals)) := fun t kt => st29 t (ls30 t kt)
      have hc32 : (own_get (1 : Int32) ((fun q => if q = i then own_enc 1 r1 else 0) k)) = (own_exp ic ia ib (0 : Int32) (0 : Int32) r1 r2) := own_L00 (own_ix i_ic.1 i_ia.1 hk_ic hk_ia) p1
      have st33 : own_Go p e below (T30.setTop (mkF m 213 #[.val (.int x0), .val (.int xpa), .val (.int xpb), .val (.int xpc), .val (.int xr1), .val (.int xr2), .val (.int n1), .val (.int n2), .val (.int (0 : Int32)), .val (.int (0 : Int32)), .val (.int r1), .val (.int r2), .val (.int n1), .val (.int ia), .val (.int ib), .val (.int ic), .val (.ref b1), .val (.int (own_get (1 : Int32) ((fun q => if q = i then own_enc 1 r1 else 0) k))), .val (.int (own_get (1 : Int32) ((fun q => if q = i then own_enc 1 r1 else 0) i)))] [(.int r2), (.int r1), (.int (0 : Int32)), (.int (0 : Int32)), (.int ib), (.int ia), (.int ia), (.int (own_get (1 : Int32) ((fun q => if q = i then own_enc 1 r1 else 0) i)))])) (s₁.setTop (entryFrame m #[(.int x0), (.int xpa), (.int xpb), (.int xpc), (.int xr1), (.int xr2)] maxLocals)) := fun t kt => st31 t (by
        show Steps p.tables e below (T30.setTop (mkF m 194 #[.val (.int x0), .val (.int xpa), .val (.int xpb), .val (.int xpc), .val (.int xr1), .val (.int xr2), .val (.int n1), .val (.int n2), .val (.int (0 : Int32)), .val (.int (0 : Int32)), .val (.int r1), .val (.int r2), .val (.int n1), .val (.int ia), .val (.int ib), .val (.int ic), .val (.ref b1), .val (.int (own_get (1 : Int32) ((fun q => if q = i then own_enc 1 r1 else 0) k))), .val (.int (own_get (1 : Int32) ((fun q => if q = i then own_enc 1 r1 else 0) i)))] [(.int (own_exp ic ia ib (0 : Int32) (0 : Int32) r1 r2)), (.int (own_get (1 : Int32) ((fun q => if q = i then own_enc 1 r1 else 0) k)))])) _
        refine XS.icmpNo X30.here hx rfl (hb hby at_194) rfl (teq hc32).2 ?_
        show Steps p.tables e below (T30.setTop (mkF m 197 #[.val (.int x0), .val (.int xpa), .val (.int xpb), .val (.int xpc), .val (.int xr1), .val (.int xr2), .val (.int n1), .val (.int n2), .val (.int (0 : Int32)), .val (.int (0 : Int32)), .val (.int r1), .val (.int r2), .val (.int n1), .val (.int ia), .val (.int ib), .val (.int ic), .val (.ref b1), .val (.int (own_get (1 : Int32) ((fun q => if q = i then own_enc 1 r1 else 0) k))), .val (.int (own_get (1 : Int32) ((fun q => if q = i then own_enc 1 r1 else 0) i)))] [])) _
        refine XS.iload X30.here hx rfl (hb hby at_197) rfl ?_
        show Steps p.tables e below (T30.setTop (mkF m 199 #[.val (.int x0), .val (.int xpa), .val (.int xpb), .val (.int xpc), .val (.int xr1), .val (.int xr2), .val (.int n1), .val (.int n2), .val (.int (0 : Int32)), .val (.int (0 : Int32)), .val (.int r1), .val (.int r2), .val (.int n1), .val (.int ia), .val (.int ib), .val (.int ic), .val (.ref b1), .val (.int (own_get (1 : Int32) ((fun q => if q = i then own_enc 1 r1 else 0) k))), .val (.int (own_get (1 : Int32) ((fun q => if q = i then own_enc 1 r1 else 0) i)))] [(.int (own_get (1 : Int32) ((fun q => if q = i then own_enc 1 r1 else 0) i)))])) _
        refine XS.iload X30.here hx rfl (hb hby at_199) rfl ?_
        show Steps p.tables e below (T30.setTop (mkF m 201 #[.val (.int x0), .val (.int xpa), .val (.int xpb), .val (.int xpc), .val (.int xr1), .val (.int xr2), .val (.int n1), .val (.int n2), .val (.int (0 : Int32)), .val (.int (0 : Int32)), .val (.int r1), .val (.int r2), .val (.int n1), .val (.int ia), .val (.int ib), .val (.int ic), .val (.ref b1), .val (.int (own_get (1 : Int32) ((fun q => if q = i then own_enc 1 r1 else 0) k))), .val (.int (own_get (1 : Int32) ((fun q => if q = i then own_enc 1 r1 else 0) i)))] [(.int ia), (.int (own_get (1 : Int32) ((fun q => if q = i then own_enc 1 r1 else 0) i)))])) _
        refine XS.iload X30.here hx rfl (hb hby at_201) rfl ?_
        show Steps p.tables e below (T30.setTop (mkF m 203 #[.val (.int x0), .val (.int xpa), .val (.int xpb), .val (.int xpc), .val (.int xr1), .val (.int xr2), .val (.int n1), .val (.int n2), .val (.int (0 : Int32)), .val (.int (0 : Int32)), .val (.int r1), .val (.int r2), .val (.int n1), .val (.int ia), .val (.int ib), .val (.int ic), .val (.ref b1), .val (.int (own_get (1 : Int32) ((fun q => if q = i then own_enc 1 r1 else 0) k))), .val (.int (own_get (1 : Int32) ((fun q => if q = i then own_enc 1 r1 else 0) i)))] [(.int ia), (.int ia), (.int (own_get (1 : Int32) ((fun q => if q = i then own_enc 1 r1 else 0) i)))])) _
        refine XS.iload X30.here hx rfl (hb hby at_203) rfl ?_
        show Steps p.tables e below (T30.setTop (mkF m 205 #[.val (.int x0), .val (.int xpa), .val (.int xpb), .val (.int xpc), .val (.int xr1), .val (.int xr2), .val (.int n1), .val (.int n2), .val (.int (0 : Int32)), .val (.int (0 : Int32)), .val (.int r1), .val (.int r2), .val (.int n1), .val (.int ia), .val (.int ib), .val (.int ic), .val (.ref b1), .val (.int (own_get (1 : Int32) ((fun q => if q = i then own_enc 1 r1 else 0) k))), .val (.int (own_get (1 : Int32) ((fun q => if q = i then own_enc 1 r1 else 0) i)))] [(.int ib), (.int ia), (.int ia), (.int (own_get (1 : Int32) ((fun q => if q = i then own_enc 1 r1 else 0) i)))])) _
        refine XS.iload X30.here hx rfl (hb hby at_205) rfl ?_
        show Steps p.tables e below (T30.setTop (mkF m 207 #[.val (.int x0), .val (.int xpa), .val (.int xpb), .val (.int xpc), .val (.int xr1), .val (.int xr2), .val (.int n1), .val (.int n2), .val (.int (0 : Int32)), .val (.int (0 : Int32)), .val (.int r1), .val (.int r2), .val (.int n1), .val (.int ia), .val (.int ib), .val (.int ic), .val (.ref b1), .val (.int (own_get (1 : Int32) ((fun q => if q = i then own_enc 1 r1 else 0) k))), .val (.int (own_get (1 : Int32) ((fun q => if q = i then own_enc 1 r1 else 0) i)))] [(.int (0 : Int32)), (.int ib), (.int ia), (.int ia), (.int (own_get (1 : Int32) ((fun q => if q = i then own_enc 1 r1 else 0) i)))])) _
        refine XS.iload X30.here hx rfl (hb hby at_207) rfl ?_
        show Steps p.tables e below (T30.setTop (mkF m 209 #[.val (.int x0), .val (.int xpa), .val (.int xpb), .val (.int xpc), .val (.int xr1), .val (.int xr2), .val (.int n1), .val (.int n2), .val (.int (0 : Int32)), .val (.int (0 : Int32)), .val (.int r1), .val (.int r2), .val (.int n1), .val (.int ia), .val (.int ib), .val (.int ic), .val (.ref b1), .val (.int (own_get (1 : Int32) ((fun q => if q = i then own_enc 1 r1 else 0) k))), .val (.int (own_get (1 : Int32) ((fun q => if q = i then own_enc 1 r1 else 0) i)))] [(.int (0 : Int32)), (.int (0 : Int32)), (.int ib), (.int ia), (.int ia), (.int (own_get (1 : Int32) ((fun q => if q = i then own_enc 1 r1 else 0) i)))])) _
        refine XS.iload X30.here hx rfl (hb hby at_209) rfl ?_
        show Steps p.tables e below (T30.setTop (mkF m 211 #[.val (.int x0), .val (.int xpa), .val (.int xpb), .val (.int xpc), .val (.int xr1), .val (.int xr2), .val (.int n1), .val (.int n2), .val (.int (0 : Int32)), .val (.int (0 : Int32)), .val (.int r1), .val (.int r2), .val (.int n1), .val (.int ia), .val (.int ib), .val (.int ic), .val (.ref b1), .val (.int (own_get (1 : Int32) ((fun q => if q = i then own_enc 1 r1 else 0) k))), .val (.int (own_get (1 : Int32) ((fun q => if q = i then own_enc 1 r1 else 0) i)))] [(.int r1), (.int (0 : Int32)), (.int (0 : Int32)), (.int ib), (.int ia), (.int ia), (.int (own_get (1 : Int32) ((fun q => if q = i then own_enc 1 r1 else 0) i)))])) _
        refine XS.iload X30.here hx rfl (hb hby at_211) rfl ?_
        show Steps p.tables e below (T30.setTop (mkF m 213 #[.val (.int x0), .val (.int xpa), .val (.int xpb), .val (.int xpc), .val (.int xr1), .val (.int xr2), .val (.int n1), .val (.int n2), .val (.int (0 : Int32)), .val (.int (0 : Int32)), .val (.int r1), .val (.int r2), .val (.int n1), .val (.int ia), .val (.int ib), .val (.int ic), .val (.ref b1), .val (.int (own_get (1 : Int32) ((fun q => if q = i then own_enc 1 r1 else 0) k))), .val (.int (own_get (1 : Int32) ((fun q => if q = i then own_enc 1 r1 else 0) i)))] [(.int r2), (.int r1), (.int (0 : Int32)), (.int (0 : Int32)), (.int ib), (.int ia), (.int ia), (.int (own_get (1 : Int32) ((fun q => if q = i then own_enc 1 r1 else 0) i)))])) _
        exact kt)
      obtain ⟨_, _, ⟨T34, L34, k34, n34⟩, -, X34, ⟨Lc34, hQ34, l34, y34, z34⟩, ls34⟩ := Jvm.LawKit.callS X30 hx (y := (⟨"com/example/saturation/saturation/WalkMemoGetPinLaw", "expect", "(IIIZZII)I"⟩ : MethodName)) hown (mvT hZ (hw _ (List.mem_of_getElem? (i := 45) rfl))) (mvT hZ (hw _ (List.mem_of_getElem? (i := 46) rfl))) (mvT hZ (hw _ (List.mem_of_getElem? (i := 47) rfl))) (mvT hZ (hw _ (List.mem_of_getElem? (i := 48) rfl))) (by decide) (backOf (W := 1) (rm_exp l Z a0 hw [] ia ia ib ((0 : Int32)) ((0 : Int32)) r1 r2 T18.heap n0 Zq18) hZ (hw _ (List.mem_of_getElem? (i := 48) rfl)) (hw _ (List.mem_of_getElem? (i := 47) rfl)) (by decide) (by decide)) (g := (mkF m 213 #[.val (.int x0), .val (.int xpa), .val (.int xpb), .val (.int xpc), .val (.int xr1), .val (.int xr2), .val (.int n1), .val (.int n2), .val (.int (0 : Int32)), .val (.int (0 : Int32)), .val (.int r1), .val (.int r2), .val (.int n1), .val (.int ia), .val (.int ib), .val (.int ic), .val (.ref b1), .val (.int (own_get (1 : Int32) ((fun q => if q = i then own_enc 1 r1 else 0) k))), .val (.int (own_get (1 : Int32) ((fun q => if q = i then own_enc 1 r1 else 0) i)))] [(.int r2), (.int r1), (.int (0 : Int32)), (.int (0 : Int32)), (.int ib), (.int ia), (.int ia), (.int (own_get (1 : Int32) ((fun q => if q = i then own_enc 1 r1 else 0) i)))])) rfl (by rw [hml]; rfl) (argsL := [(.int ia), (.int ia), (.int ib), (.int (0 : Int32)), (.int (0 : Int32)), (.int r1), (.int r2)]) (rest := [(.int (own_get (1 : Int32) ((fun q => if q = i then own_enc 1 r1 else 0) i)))]) (lenOf own_pd6 rfl) rfl (by show 2 * 0 + _ ≤ _; exact Nat.le_of_eq rfl) (hb hby at_213) (fun _ _ => ⟨rfl, eq30, (by decide : 3 + 0 ≤ _), (by decide : 18 + 0 ≤ _)⟩)
      dsimp only [Pt.U, Pt.locs, Pt.cells, Pt.slots] at X34 l34 y34 z34 ls34 hQ34
      subst l34 y34 z34
      obtain ⟨rfl, Nq34, eq34⟩ := hQ34
      have N34 := Fr.app N30 Nq34
      have st35 : own_Go p e below (T34.setTop (mkF m 216 #[.val (.int x0), .val (.int xpa), .val (.int xpb), .val (.int xpc), .val (.int xr1), .val (.int xr2), .val (.int n1), .val (.int n2), .val (.int (0 : Int32)), .val (.int (0 : Int32)), .val (.int r1), .val (.int r2), .val (.int n1), .val (.int ia), .val (.int ib), .val (.int ic), .val (.ref b1), .val (.int (own_get (1 : Int32) ((fun q => if q = i then own_enc 1 r1 else 0) k))), .val (.int (own_get (1 : Int32) ((fun q => if q = i then own_enc 1 r1 else 0) i)))] [(.int (own_exp ia ia ib (0 : Int32) (0 : Int32) r1 r2)), (.int (own_get (1 : Int32) ((fun q => if q = i then own_enc 1 r1 else 0) i)))])) (s₁.setTop (entryFrame m #[(.int x0), (.int xpa), (.int xpb), (.int xpc), (.int xr1), (.int xr2)] maxLocals)) := fun t kt => st33 t (ls34 t kt)
      have hc36 : (own_get (1 : Int32) ((fun q => if q = i then own_enc 1 r1 else 0) i)) = (own_exp ia ia ib (0 : Int32) (0 : Int32) r1 r2) := own_L00 (own_ix i_ia.1 i_ia.1 hk_ia hk_ia) p1
      have st37 : own_Go p e below (T34.setTop (mkF m 224 #[.val (.int x0), .val (.int xpa), .val (.int xpb), .val (.int xpc), .val (.int xr1), .val (.int xr2), .val (.int n1), .val (.int n2), .val (.int (0 : Int32)), .val (.int (0 : Int32)), .val (.int r1), .val (.int r2), .val (.int n1), .val (.int ia), .val (.int ib), .val (.int ic), .val (.ref b1), .val (.int (own_get (1 : Int32) ((fun q => if q = i then own_enc 1 r1 else 0) k))), .val (.int (own_get (1 : Int32) ((fun q => if q = i then own_enc 1 r1 else 0) i)))] [(.int (1 : Int32))])) (s₁.setTop (entryFrame m #[(.int x0), (.int xpa), (.int xpb), (.int xpc), (.int xr1), (.int xr2)] maxLocals)) := fun t kt => st35 t (by
        show Steps p.tables e below (T34.setTop (mkF m 216 #[.val (.int x0), .val (.int xpa), .val (.int xpb), .val (.int xpc), .val (.int xr1), .val (.int xr2), .val (.int n1), .val (.int n2), .val (.int (0 : Int32)), .val (.int (0 : Int32)), .val (.int r1), .val (.int r2), .val (.int n1), .val (.int ia), .val (.int ib), .val (.int ic), .val (.ref b1), .val (.int (own_get (1 : Int32) ((fun q => if q = i then own_enc 1 r1 else 0) k))), .val (.int (own_get (1 : Int32) ((fun q => if q = i then own_enc 1 r1 else 0) i)))] [(.int (own_exp ia ia ib (0 : Int32) (0 : Int32) r1 r2)), (.int (own_get (1 : Int32) ((fun q => if q = i then own_enc 1 r1 else 0) i)))])) _
        refine XS.icmpNo X34.here hx rfl (hb hby at_216) rfl (teq hc36).2 ?_
        show Steps p.tables e below (T34.setTop (mkF m 219 #[.val (.int x0), .val (.int xpa), .val (.int xpb), .val (.int xpc), .val (.int xr1), .val (.int xr2), .val (.int n1), .val (.int n2), .val (.int (0 : Int32)), .val (.int (0 : Int32)), .val (.int r1), .val (.int r2), .val (.int n1), .val (.int ia), .val (.int ib), .val (.int ic), .val (.ref b1), .val (.int (own_get (1 : Int32) ((fun q => if q = i then own_enc 1 r1 else 0) k))), .val (.int (own_get (1 : Int32) ((fun q => if q = i then own_enc 1 r1 else 0) i)))] [])) _
        refine XS.iconst X34.here hx rfl (hb hby at_219) ?_
        show Steps p.tables e below (T34.setTop (mkF m 220 #[.val (.int x0), .val (.int xpa), .val (.int xpb), .val (.int xpc), .val (.int xr1), .val (.int xr2), .val (.int n1), .val (.int n2), .val (.int (0 : Int32)), .val (.int (0 : Int32)), .val (.int r1), .val (.int r2), .val (.int n1), .val (.int ia), .val (.int ib), .val (.int ic), .val (.ref b1), .val (.int (own_get (1 : Int32) ((fun q => if q = i then own_enc 1 r1 else 0) k))), .val (.int (own_get (1 : Int32) ((fun q => if q = i then own_enc 1 r1 else 0) i)))] [(.int (1 : Int32))])) _
        refine XS.goto X34.here hx rfl (pc0 := 220) (pc' := 224) rfl (hb hby at_220) (by decide) (by decide) ?_
        show Steps p.tables e below (T34.setTop (mkF m 224 #[.val (.int x0), .val (.int xpa), .val (.int xpb), .val (.int xpc), .val (.int xr1), .val (.int xr2), .val (.int n1), .val (.int n2), .val (.int (0 : Int32)), .val (.int (0 : Int32)), .val (.int r1), .val (.int r2), .val (.int n1), .val (.int ia), .val (.int ib), .val (.int ic), .val (.ref b1), .val (.int (own_get (1 : Int32) ((fun q => if q = i then own_enc 1 r1 else 0) k))), .val (.int (own_get (1 : Int32) ((fun q => if q = i then own_enc 1 r1 else 0) i)))] [(.int (1 : Int32))])) _
        exact kt)
      obtain ⟨fs, hr, hrun, hended, hW, hsame⟩ := X34.leave (v := (some (.int (1 : Int32)))) (fun h => by rw [Bd.returns] at h; cases h)
      refine ⟨_, _, st37 _ ?_, hrun, hended, _, _, rfl, ?_, ⟨_, rfl⟩, hW, hsame.mono (by decide) (by decide)⟩
      · exact retN X34 hx (t := .boolean) Bd.returns (by simp) (hb hby at_224) hr
      · show Q_rm_law Z x0 xpa xpb xpc xr1 xr2 h0 n0 _ T34.heap _
        rw [eq34]
        exact ⟨rfl, N34⟩
    · obtain ⟨r1, h_r1⟩ : ∃ z : Int32, z = (xr1 &&& (2147483647 : Int32)) := ⟨_, rfl⟩
      obtain ⟨r2, h_r2⟩ : ∃ z : Int32, z = (xr2 &&& (2147483647 : Int32)) := ⟨_, rfl⟩
      have hc38 : (0 : Int32) = (0 : Int32) := rfl
      obtain ⟨ia, h_ia⟩ : ∃ z : Int32, z = ((xpa &&& (2147483647 : Int32)) % n1) := ⟨_, rfl⟩
      obtain ⟨ib, h_ib⟩ : ∃ z : Int32, z = ((xpb &&& (2147483647 : Int32)) % n1) := ⟨_, rfl⟩
      obtain ⟨ic, h_ic⟩ : ∃ z : Int32, z = ((xpc &&& (2147483647 : Int32)) % n1) := ⟨_, rfl⟩
      have i_ia := own_idx xpa n1 (by omega)
      rw [← h_ia, hN1] at i_ia
      have i_ib := own_idx xpb n1 (by omega)
      rw [← h_ib, hN1] at i_ib
      have i_ic := own_idx xpc n1 (by omega)
      rw [← h_ic, hN1] at i_ic
      have p1 := own_pos xr1
      rw [← h_r1] at p1
      have p2 := own_pos xr2
      rw [← h_r2] at p2
      obtain ⟨i, hk_ia⟩ : ∃ z, ia.toNatClampNeg = z := ⟨_, rfl⟩
      rw [hk_ia] at i_ia
      obtain ⟨j, hk_ib⟩ : ∃ z, ib.toNatClampNeg = z := ⟨_, rfl⟩
      rw [hk_ib] at i_ib
      obtain ⟨k, hk_ic⟩ : ∃ z, ic.toNatClampNeg = z := ⟨_, rfl⟩
      rw [hk_ic] at i_ic
      have st39 : own_Go p e below (s₁.setTop (mkF m 106 #[.val (.int x0), .val (.int xpa), .val (.int xpb), .val (.int xpc), .val (.int xr1), .val (.int xr2), .val (.int n1), .val (.int n2), .val (.int (0 : Int32)), .val (.int (1 : Int32)), .val (.int r1), .val (.int r2), .val (.int n1), .val (.int ia), .val (.int ib), .val (.int ic), .unset, .unset, .unset] [])) (s₁.setTop (entryFrame m #[(.int x0), (.int xpa), (.int xpb), (.int xpc), (.int xr1), (.int xr2)] maxLocals)) := fun t kt => st2 t (by
        show Steps p.tables e below (s₁.setTop (mkF m 41 #[.val (.int x0), .val (.int xpa), .val (.int xpb), .val (.int xpc), .val (.int xr1), .val (.int xr2), .val (.int n1), .val (.int n2), .val (.int (0 : Int32)), .unset, .unset, .unset, .unset, .unset, .unset, .unset, .unset, .unset, .unset] [(.int (((x0.toUInt32 >>> ((7 : Int32) &&& 31).toUInt32).toInt32) &&& (1 : Int32)))])) _
        refine XS.ifNo X0.here hx rfl (hb hby at_41) rfl ((if0 _ _).trans (feq q2).1) ?_
        show Steps p.tables e below (s₁.setTop (mkF m 44 #[.val (.int x0), .val (.int xpa), .val (.int xpb), .val (.int xpc), .val (.int xr1), .val (.int xr2), .val (.int n1), .val (.int n2), .val (.int (0 : Int32)), .unset, .unset, .unset, .unset, .unset, .unset, .unset, .unset, .unset, .unset] [])) _
        refine XS.iconst X0.here hx rfl (hb hby at_44) ?_
        show Steps p.tables e below (s₁.setTop (mkF m 45 #[.val (.int x0), .val (.int xpa), .val (.int xpb), .val (.int xpc), .val (.int xr1), .val (.int xr2), .val (.int n1), .val (.int n2), .val (.int (0 : Int32)), .unset, .unset, .unset, .unset, .unset, .unset, .unset, .unset, .unset, .unset] [(.int (1 : Int32))])) _
        refine XS.goto X0.here hx rfl (pc0 := 45) (pc' := 49) rfl (hb hby at_45) (by decide) (by decide) ?_
        show Steps p.tables e below (s₁.setTop (mkF m 49 #[.val (.int x0), .val (.int xpa), .val (.int xpb), .val (.int xpc), .val (.int xr1), .val (.int xr2), .val (.int n1), .val (.int n2), .val (.int (0 : Int32)), .unset, .unset, .unset, .unset, .unset, .unset, .unset, .unset, .unset, .unset] [(.int (1 : Int32))])) _
        refine XS.istore X0.here hx rfl (hb hby at_49) rfl (l' := #[.val (.int x0), .val (.int xpa), .val (.int xpb), .val (.int xpc), .val (.int xr1), .val (.int xr2), .val (.int n1), .val (.int n2), .val (.int (0 : Int32)), .val (.int (1 : Int32)), .unset, .unset, .unset, .unset, .unset, .unset, .unset, .unset, .unset]) rfl ?_
        show Steps p.tables e below (s₁.setTop (mkF m 51 #[.val (.int x0), .val (.int xpa), .val (.int xpb), .val (.int xpc), .val (.int xr1), .val (.int xr2), .val (.int n1), .val (.int n2), .val (.int (0 : Int32)), .val (.int (1 : Int32)), .unset, .unset, .unset, .unset, .unset, .unset, .unset, .unset, .unset] [])) _
        refine XS.iload X0.here hx rfl (hb hby at_51) rfl ?_
        show Steps p.tables e below (s₁.setTop (mkF m 53 #[.val (.int x0), .val (.int xpa), .val (.int xpb), .val (.int xpc), .val (.int xr1), .val (.int xr2), .val (.int n1), .val (.int n2), .val (.int (0 : Int32)), .val (.int (1 : Int32)), .unset, .unset, .unset, .unset, .unset, .unset, .unset, .unset, .unset] [(.int xr1)])) _
        refine X0.ldcInt hx hown (mvT hZ (hw _ (List.mem_of_getElem? (i := 0) rfl))) (g := (mkF m 53 #[.val (.int x0), .val (.int xpa), .val (.int xpb), .val (.int xpc), .val (.int xr1), .val (.int xr2), .val (.int n1), .val (.int n2), .val (.int (0 : Int32)), .val (.int (1 : Int32)), .unset, .unset, .unset, .unset, .unset, .unset, .unset, .unset, .unset] [(.int xr1)])) rfl (hb hby at_53) _ ?_
        show Steps p.tables e below (s₁.setTop (mkF m 55 #[.val (.int x0), .val (.int xpa), .val (.int xpb), .val (.int xpc), .val (.int xr1), .val (.int xr2), .val (.int n1), .val (.int n2), .val (.int (0 : Int32)), .val (.int (1 : Int32)), .unset, .unset, .unset, .unset, .unset, .unset, .unset, .unset, .unset] [(.int (2147483647 : Int32)), (.int xr1)])) _
        refine XS.iand X0.here hx rfl (hb hby at_55) rfl ?_
        show Steps p.tables e below (s₁.setTop (mkF m 56 #[.val (.int x0), .val (.int xpa), .val (.int xpb), .val (.int xpc), .val (.int xr1), .val (.int xr2), .val (.int n1), .val (.int n2), .val (.int (0 : Int32)), .val (.int (1 : Int32)), .unset, .unset, .unset, .unset, .unset, .unset, .unset, .unset, .unset] [(.int (xr1 &&& (2147483647 : Int32)))])) _
        rw [← h_r1]
        show Steps p.tables e below (s₁.setTop (mkF m 56 #[.val (.int x0), .val (.int xpa), .val (.int xpb), .val (.int xpc), .val (.int xr1), .val (.int xr2), .val (.int n1), .val (.int n2), .val (.int (0 : Int32)), .val (.int (1 : Int32)), .unset, .unset, .unset, .unset, .unset, .unset, .unset, .unset, .unset] [(.int r1)])) _
        refine XS.istore X0.here hx rfl (hb hby at_56) rfl (l' := #[.val (.int x0), .val (.int xpa), .val (.int xpb), .val (.int xpc), .val (.int xr1), .val (.int xr2), .val (.int n1), .val (.int n2), .val (.int (0 : Int32)), .val (.int (1 : Int32)), .val (.int r1), .unset, .unset, .unset, .unset, .unset, .unset, .unset, .unset]) rfl ?_
        show Steps p.tables e below (s₁.setTop (mkF m 58 #[.val (.int x0), .val (.int xpa), .val (.int xpb), .val (.int xpc), .val (.int xr1), .val (.int xr2), .val (.int n1), .val (.int n2), .val (.int (0 : Int32)), .val (.int (1 : Int32)), .val (.int r1), .unset, .unset, .unset, .unset, .unset, .unset, .unset, .unset] [])) _
        refine XS.iload X0.here hx rfl (hb hby at_58) rfl ?_
        show Steps p.tables e below (s₁.setTop (mkF m 60 #[.val (.int x0), .val (.int xpa), .val (.int xpb), .val (.int xpc), .val (.int xr1), .val (.int xr2), .val (.int n1), .val (.int n2), .val (.int (0 : Int32)), .val (.int (1 : Int32)), .val (.int r1), .unset, .unset, .unset, .unset, .unset, .unset, .unset, .unset] [(.int xr2)])) _
        refine X0.ldcInt hx hown (mvT hZ (hw _ (List.mem_of_getElem? (i := 0) rfl))) (g := (mkF m 60 #[.val (.int x0), .val (.int xpa), .val (.int xpb), .val (.int xpc), .val (.int xr1), .val (.int xr2), .val (.int n1), .val (.int n2), .val (.int (0 : Int32)), .val (.int (1 : Int32)), .val (.int r1), .unset, .unset, .unset, .unset, .unset, .unset, .unset, .unset] [(.int xr2)])) rfl (hb hby at_60) _ ?_
        show Steps p.tables e below (s₁.setTop (mkF m 62 #[.val (.int x0), .val (.int xpa), .val (.int xpb), .val (.int xpc), .val (.int xr1), .val (.int xr2), .val (.int n1), .val (.int n2), .val (.int (0 : Int32)), .val (.int (1 : Int32)), .val (.int r1), .unset, .unset, .unset, .unset, .unset, .unset, .unset, .unset] [(.int (2147483647 : Int32)), (.int xr2)])) _
        refine XS.iand X0.here hx rfl (hb hby at_62) rfl ?_
        show Steps p.tables e below (s₁.setTop (mkF m 63 #[.val (.int x0), .val (.int xpa), .val (.int xpb), .val (.int xpc), .val (.int xr1), .val (.int xr2), .val (.int n1), .val (.int n2), .val (.int (0 : Int32)), .val (.int (1 : Int32)), .val (.int r1), .unset, .unset, .unset, .unset, .unset, .unset, .unset, .unset] [(.int (xr2 &&& (2147483647 : Int32)))])) _
        rw [← h_r2]
        show Steps p.tables e below (s₁.setTop (mkF m 63 #[.val (.int x0), .val (.int xpa), .val (.int xpb), .val (.int xpc), .val (.int xr1), .val (.int xr2), .val (.int n1), .val (.int n2), .val (.int (0 : Int32)), .val (.int (1 : Int32)), .val (.int r1), .unset, .unset, .unset, .unset, .unset, .unset, .unset, .unset] [(.int r2)])) _
        refine XS.istore X0.here hx rfl (hb hby at_63) rfl (l' := #[.val (.int x0), .val (.int xpa), .val (.int xpb), .val (.int xpc), .val (.int xr1), .val (.int xr2), .val (.int n1), .val (.int n2), .val (.int (0 : Int32)), .val (.int (1 : Int32)), .val (.int r1), .val (.int r2), .unset, .unset, .unset, .unset, .unset, .unset, .unset]) rfl ?_
        show Steps p.tables e below (s₁.setTop (mkF m 65 #[.val (.int x0), .val (.int xpa), .val (.int xpb), .val (.int xpc), .val (.int xr1), .val (.int xr2), .val (.int n1), .val (.int n2), .val (.int (0 : Int32)), .val (.int (1 : Int32)), .val (.int r1), .val (.int r2), .unset, .unset, .unset, .unset, .unset, .unset, .unset] [])) _
        refine XS.iload X0.here hx rfl (hb hby at_65) rfl ?_
        show Steps p.tables e below (s₁.setTop (mkF m 67 #[.val (.int x0), .val (.int xpa), .val (.int xpb), .val (.int xpc), .val (.int xr1), .val (.int xr2), .val (.int n1), .val (.int n2), .val (.int (0 : Int32)), .val (.int (1 : Int32)), .val (.int r1), .val (.int r2), .unset, .unset, .unset, .unset, .unset, .unset, .unset] [(.int (0 : Int32))])) _
        refine XS.ifYes X0.here hx rfl (pc0 := 67) (pc' := 75) rfl (hb hby at_67) rfl ((if0 _ _).trans (teq hc38).1) (by decide) (by decide) ?_
        show Steps p.tables e below (s₁.setTop (mkF m 75 #[.val (.int x0), .val (.int xpa), .val (.int xpb), .val (.int xpc), .val (.int xr1), .val (.int xr2), .val (.int n1), .val (.int n2), .val (.int (0 : Int32)), .val (.int (1 : Int32)), .val (.int r1), .val (.int r2), .unset, .unset, .unset, .unset, .unset, .unset, .unset] [])) _
        refine XS.iload X0.here hx rfl (hb hby at_75) rfl ?_
        show Steps p.tables e below (s₁.setTop (mkF m 77 #[.val (.int x0), .val (.int xpa), .val (.int xpb), .val (.int xpc), .val (.int xr1), .val (.int xr2), .val (.int n1), .val (.int n2), .val (.int (0 : Int32)), .val (.int (1 : Int32)), .val (.int r1), .val (.int r2), .unset, .unset, .unset, .unset, .unset, .unset, .unset] [(.int n1)])) _
        refine XS.istore X0.here hx rfl (hb hby at_77) rfl (l' := #[.val (.int x0), .val (.int xpa), .val (.int xpb), .val (.int xpc), .val (.int xr1), .val (.int xr2), .val (.int n1), .val (.int n2), .val (.int (0 : Int32)), .val (.int (1 : Int32)), .val (.int r1), .val (.int r2), .val (.int n1), .unset, .unset, .unset, .unset, .unset, .unset]) rfl ?_
        show Steps p.tables e below (s₁.setTop (mkF m 79 #[.val (.int x0), .val (.int xpa), .val (.int xpb), .val (.int xpc), .val (.int xr1), .val (.int xr2), .val (.int n1), .val (.int n2), .val (.int (0 : Int32)), .val (.int (1 : Int32)), .val (.int r1), .val (.int r2), .val (.int n1), .unset, .unset, .unset, .unset, .unset, .unset] [])) _
        refine XS.iloadN X0.here hx rfl (hb hby at_79) rfl ?_
        show Steps p.tables e below (s₁.setTop (mkF m 80 #[.val (.int x0), .val (.int xpa), .val (.int xpb), .val (.int xpc), .val (.int xr1), .val (.int xr2), .val (.int n1), .val (.int n2), .val (.int (0 : Int32)), .val (.int (1 : Int32)), .val (.int r1), .val (.int r2), .val (.int n1), .unset, .unset, .unset, .unset, .unset, .unset] [(.int xpa)])) _
        refine X0.ldcInt hx hown (mvT hZ (hw _ (List.mem_of_getElem? (i := 0) rfl))) (g := (mkF m 80 #[.val (.int x0), .val (.int xpa), .val (.int xpb), .val (.int xpc), .val (.int xr1), .val (.int xr2), .val (.int n1), .val (.int n2), .val (.int (0 : Int32)), .val (.int (1 : Int32)), .val (.int r1), .val (.int r2), .val (.int n1), .unset, .unset, .unset, .unset, .unset, .unset] [(.int xpa)])) rfl (hb hby at_80) _ ?_
        show Steps p.tables e below (s₁.setTop (mkF m 82 #[.val (.int x0), .val (.int xpa), .val (.int xpb), .val (.int xpc), .val (.int xr1), .val (.int xr2), .val (.int n1), .val (.int n2), .val (.int (0 : Int32)), .val (.int (1 : Int32)), .val (.int r1), .val (.int r2), .val (.int n1), .unset, .unset, .unset, .unset, .unset, .unset] [(.int (2147483647 : Int32)), (.int xpa)])) _
        refine XS.iand X0.here hx rfl (hb hby at_82) rfl ?_
        show Steps p.tables e below (s₁.setTop (mkF m 83 #[.val (.int x0), .val (.int xpa), .val (.int xpb), .val (.int xpc), .val (.int xr1), .val (.int xr2), .val (.int n1), .val (.int n2), .val (.int (0 : Int32)), .val (.int (1 : Int32)), .val (.int r1), .val (.int r2), .val (.int n1), .unset, .unset, .unset, .unset, .unset, .unset] [(.int (xpa &&& (2147483647 : Int32)))])) _
        refine XS.iload X0.here hx rfl (hb hby at_83) rfl ?_
        show Steps p.tables e below (s₁.setTop (mkF m 85 #[.val (.int x0), .val (.int xpa), .val (.int xpb), .val (.int xpc), .val (.int xr1), .val (.int xr2), .val (.int n1), .val (.int n2), .val (.int (0 : Int32)), .val (.int (1 : Int32)), .val (.int r1), .val (.int r2), .val (.int n1), .unset, .unset, .unset, .unset, .unset, .unset] [(.int n1), (.int (xpa &&& (2147483647 : Int32)))])) _
        refine iremM X0 hx rfl (hb hby at_85) rfl hnz1 ?_
        show Steps p.tables e below (s₁.setTop (mkF m 86 #[.val (.int x0), .val (.int xpa), .val (.int xpb), .val (.int xpc), .val (.int xr1), .val (.int xr2), .val (.int n1), .val (.int n2), .val (.int (0 : Int32)), .val (.int (1 : Int32)), .val (.int r1), .val (.int r2), .val (.int n1), .unset, .unset, .unset, .unset, .unset, .unset] [(.int ((xpa &&& (2147483647 : Int32)) % n1))])) _
        rw [← h_ia]
        show Steps p.tables e below (s₁.setTop (mkF m 86 #[.val (.int x0), .val (.int xpa), .val (.int xpb), .val (.int xpc), .val (.int xr1), .val (.int xr2), .val (.int n1), .val (.int n2), .val (.int (0 : Int32)), .val (.int (1 : Int32)), .val (.int r1), .val (.int r2), .val (.int n1), .unset, .unset, .unset, .unset, .unset, .unset] [(.int ia)])) _
        refine XS.istore X0.here hx rfl (hb hby at_86) rfl (l' := #[.val (.int x0), .val (.int xpa), .val (.int xpb), .val (.int xpc), .val (.int xr1), .val (.int xr2), .val (.int n1), .val (.int n2), .val (.int (0 : Int32)), .val (.int (1 : Int32)), .val (.int r1), .val (.int r2), .val (.int n1), .val (.int ia), .unset, .unset, .unset, .unset, .unset]) rfl ?_
        show Steps p.tables e below (s₁.setTop (mkF m 88 #[.val (.int x0), .val (.int xpa), .val (.int xpb), .val (.int xpc), .val (.int xr1), .val (.int xr2), .val (.int n1), .val (.int n2), .val (.int (0 : Int32)), .val (.int (1 : Int32)), .val (.int r1), .val (.int r2), .val (.int n1), .val (.int ia), .unset, .unset, .unset, .unset, .unset] [])) _
        refine XS.iloadN X0.here hx rfl (hb hby at_88) rfl ?_
        show Steps p.tables e below (s₁.setTop (mkF m 89 #[.val (.int x0), .val (.int xpa), .val (.int xpb), .val (.int xpc), .val (.int xr1), .val (.int xr2), .val (.int n1), .val (.int n2), .val (.int (0 : Int32)), .val (.int (1 : Int32)), .val (.int r1), .val (.int r2), .val (.int n1), .val (.int ia), .unset, .unset, .unset, .unset, .unset] [(.int xpb)])) _
        refine X0.ldcInt hx hown (mvT hZ (hw _ (List.mem_of_getElem? (i := 0) rfl))) (g := (mkF m 89 #[.val (.int x0), .val (.int xpa), .val (.int xpb), .val (.int xpc), .val (.int xr1), .val (.int xr2), .val (.int n1), .val (.int n2), .val (.int (0 : Int32)), .val (.int (1 : Int32)), .val (.int r1), .val (.int r2), .val (.int n1), .val (.int ia), .unset, .unset, .unset, .unset, .unset] [(.int xpb)])) rfl (hb hby at_89) _ ?_
        show Steps p.tables e below (s₁.setTop (mkF m 91 #[.val (.int x0), .val (.int xpa), .val (.int xpb), .val (.int xpc), .val (.int xr1), .val (.int xr2), .val (.int n1), .val (.int n2), .val (.int (0 : Int32)), .val (.int (1 : Int32)), .val (.int r1), .val (.int r2), .val (.int n1), .val (.int ia), .unset, .unset, .unset, .unset, .unset] [(.int (2147483647 : Int32)), (.int xpb)])) _
        refine XS.iand X0.here hx rfl (hb hby at_91) rfl ?_
        show Steps p.tables e below (s₁.setTop (mkF m 92 #[.val (.int x0), .val (.int xpa), .val (.int xpb), .val (.int xpc), .val (.int xr1), .val (.int xr2), .val (.int n1), .val (.int n2), .val (.int (0 : Int32)), .val (.int (1 : Int32)), .val (.int r1), .val (.int r2), .val (.int n1), .val (.int ia), .unset, .unset, .unset, .unset, .unset] [(.int (xpb &&& (2147483647 : Int32)))])) _
        refine XS.iload X0.here hx rfl (hb hby at_92) rfl ?_
        show Steps p.tables e below (s₁.setTop (mkF m 94 #[.val (.int x0), .val (.int xpa), .val (.int xpb), .val (.int xpc), .val (.int xr1), .val (.int xr2), .val (.int n1), .val (.int n2), .val (.int (0 : Int32)), .val (.int (1 : Int32)), .val (.int r1), .val (.int r2), .val (.int n1), .val (.int ia), .unset, .unset, .unset, .unset, .unset] [(.int n1), (.int (xpb &&& (2147483647 : Int32)))])) _
        refine iremM X0 hx rfl (hb hby at_94) rfl hnz1 ?_
        show Steps p.tables e below (s₁.setTop (mkF m 95 #[.val (.int x0), .val (.int xpa), .val (.int xpb), .val (.int xpc), .val (.int xr1), .val (.int xr2), .val (.int n1), .val (.int n2), .val (.int (0 : Int32)), .val (.int (1 : Int32)), .val (.int r1), .val (.int r2), .val (.int n1), .val (.int ia), .unset, .unset, .unset, .unset, .unset] [(.int ((xpb &&& (2147483647 : Int32)) % n1))])) _
        rw [← h_ib]
        show Steps p.tables e below (s₁.setTop (mkF m 95 #[.val (.int x0), .val (.int xpa), .val (.int xpb), .val (.int xpc), .val (.int xr1), .val (.int xr2), .val (.int n1), .val (.int n2), .val (.int (0 : Int32)), .val (.int (1 : Int32)), .val (.int r1), .val (.int r2), .val (.int n1), .val (.int ia), .unset, .unset, .unset, .unset, .unset] [(.int ib)])) _
        refine XS.istore X0.here hx rfl (hb hby at_95) rfl (l' := #[.val (.int x0), .val (.int xpa), .val (.int xpb), .val (.int xpc), .val (.int xr1), .val (.int xr2), .val (.int n1), .val (.int n2), .val (.int (0 : Int32)), .val (.int (1 : Int32)), .val (.int r1), .val (.int r2), .val (.int n1), .val (.int ia), .val (.int ib), .unset, .unset, .unset, .unset]) rfl ?_
        show Steps p.tables e below (s₁.setTop (mkF m 97 #[.val (.int x0), .val (.int xpa), .val (.int xpb), .val (.int xpc), .val (.int xr1), .val (.int xr2), .val (.int n1), .val (.int n2), .val (.int (0 : Int32)), .val (.int (1 : Int32)), .val (.int r1), .val (.int r2), .val (.int n1), .val (.int ia), .val (.int ib), .unset, .unset, .unset, .unset] [])) _
        refine XS.iloadN X0.here hx rfl (hb hby at_97) rfl ?_
        show Steps p.tables e below (s₁.setTop (mkF m 98 #[.val (.int x0), .val (.int xpa), .val (.int xpb), .val (.int xpc), .val (.int xr1), .val (.int xr2), .val (.int n1), .val (.int n2), .val (.int (0 : Int32)), .val (.int (1 : Int32)), .val (.int r1), .val (.int r2), .val (.int n1), .val (.int ia), .val (.int ib), .unset, .unset, .unset, .unset] [(.int xpc)])) _
        refine X0.ldcInt hx hown (mvT hZ (hw _ (List.mem_of_getElem? (i := 0) rfl))) (g := (mkF m 98 #[.val (.int x0), .val (.int xpa), .val (.int xpb), .val (.int xpc), .val (.int xr1), .val (.int xr2), .val (.int n1), .val (.int n2), .val (.int (0 : Int32)), .val (.int (1 : Int32)), .val (.int r1), .val (.int r2), .val (.int n1), .val (.int ia), .val (.int ib), .unset, .unset, .unset, .unset] [(.int xpc)])) rfl (hb hby at_98) _ ?_
        show Steps p.tables e below (s₁.setTop (mkF m 100 #[.val (.int x0), .val (.int xpa), .val (.int xpb), .val (.int xpc), .val (.int xr1), .val (.int xr2), .val (.int n1), .val (.int n2), .val (.int (0 : Int32)), .val (.int (1 : Int32)), .val (.int r1), .val (.int r2), .val (.int n1), .val (.int ia), .val (.int ib), .unset, .unset, .unset, .unset] [(.int (2147483647 : Int32)), (.int xpc)])) _
        refine XS.iand X0.here hx rfl (hb hby at_100) rfl ?_
        show Steps p.tables e below (s₁.setTop (mkF m 101 #[.val (.int x0), .val (.int xpa), .val (.int xpb), .val (.int xpc), .val (.int xr1), .val (.int xr2), .val (.int n1), .val (.int n2), .val (.int (0 : Int32)), .val (.int (1 : Int32)), .val (.int r1), .val (.int r2), .val (.int n1), .val (.int ia), .val (.int ib), .unset, .unset, .unset, .unset] [(.int (xpc &&& (2147483647 : Int32)))])) _
        refine XS.iload X0.here hx rfl (hb hby at_101) rfl ?_
        show Steps p.tables e below (s₁.setTop (mkF m 103 #[.val (.int x0), .val (.int xpa), .val (.int xpb), .val (.int xpc), .val (.int xr1), .val (.int xr2), .val (.int n1), .val (.int n2), .val (.int (0 : Int32)), .val (.int (1 : Int32)), .val (.int r1), .val (.int r2), .val (.int n1), .val (.int ia), .val (.int ib), .unset, .unset, .unset, .unset] [(.int n1), (.int (xpc &&& (2147483647 : Int32)))])) _
        refine iremM X0 hx rfl (hb hby at_103) rfl hnz1 ?_
        show Steps p.tables e below (s₁.setTop (mkF m 104 #[.val (.int x0), .val (.int xpa), .val (.int xpb), .val (.int xpc), .val (.int xr1), .val (.int xr2), .val (.int n1), .val (.int n2), .val (.int (0 : Int32)), .val (.int (1 : Int32)), .val (.int r1), .val (.int r2), .val (.int n1), .val (.int ia), .val (.int ib), .unset, .unset, .unset, .unset] [(.int ((xpc &&& (2147483647 : Int32)) % n1))])) _
        rw [← h_ic]
        show Steps p.tables e below (s₁.setTop (mkF m 104 #[.val (.int x0), .val (.int xpa), .val (.int xpb), .val (.int xpc), .val (.int xr1), .val (.int xr2), .val (.int n1), .val (.int n2), .val (.int (0 : Int32)), .val (.int (1 : Int32)), .val (.int r1), .val (.int r2), .val (.int n1), .val (.int ia), .val (.int ib), .unset, .unset, .unset, .unset] [(.int ic)])) _
        refine XS.istore X0.here hx rfl (hb hby at_104) rfl (l' := #[.val (.int x0), .val (.int xpa), .val (.int xpb), .val (.int xpc), .val (.int xr1), .val (.int xr2), .val (.int n1), .val (.int n2), .val (.int (0 : Int32)), .val (.int (1 : Int32)), .val (.int r1), .val (.int r2), .val (.int n1), .val (.int ia), .val (.int ib), .val (.int ic), .unset, .unset, .unset]) rfl ?_
        show Steps p.tables e below (s₁.setTop (mkF m 106 #[.val (.int x0), .val (.int xpa), .val (.int xpb), .val (.int xpc), .val (.int xr1), .val (.int xr2), .val (.int n1), .val (.int n2), .val (.int (0 : Int32)), .val (.int (1 : Int32)), .val (.int r1), .val (.int r2), .val (.int n1), .val (.int ia), .val (.int ib), .val (.int ic), .unset, .unset, .unset] [])) _
        exact kt)
      obtain ⟨T40, h40, X40, e40, E40, A40, D40, -, ls40⟩ := newO X0 hx hZ hown (hw _ (List.mem_of_getElem? (i := 1) rfl)) (hw _ (List.mem_of_getElem? (i := 2) rfl)) (hw _ (List.mem_of_getElem? (i := 3) rfl)) e0 (g := (mkF m 106 #[.val (.int x0), .val (.int xpa), .val (.int xpb), .val (.int xpc), .val (.int xr1), .val (.int xr2), .val (.int n1), .val (.int n2), .val (.int (0 : Int32)), .val (.int (1 : Int32)), .val (.int r1), .val (.int r2), .val (.int n1), .val (.int ia), .val (.int ib), .val (.int ic), .unset, .unset, .unset] [])) rfl (hb hby at_106) (by decide) (by decide)
      obtain ⟨b1, g40⟩ : ∃ z, z = h0.size := ⟨_, rfl⟩
      rw [← g40] at A40 D40 ls40
      have g_b1 : n0 ≤ b1 := Nat.le_trans Z0 (Nat.le_of_eq g40.symm)
      have z41 := Nat.le_trans Z0 E40.1
      have f42 : Fld Z h40 b1 "com/example/saturation/saturation/WalkMemo" "entries" "[J" .null := D40 (Or.inl (hw _ (List.mem_of_getElem? (i := 12) rfl))) (ty := (.array .long)) (by decide)
      have f43 : Fld Z h40 b1 "com/example/saturation/saturation/WalkMemo" "stamp" "I" (.int (0 : Int32)) := D40 (Or.inl (hw _ (List.mem_of_getElem? (i := 34) rfl))) (ty := .int) (by decide)
      have st44 : own_Go p e below (T40.setTop (mkF m 109 #[.val (.int x0), .val (.int xpa), .val (.int xpb), .val (.int xpc), .val (.int xr1), .val (.int xr2), .val (.int n1), .val (.int n2), .val (.int (0 : Int32)), .val (.int (1 : Int32)), .val (.int r1), .val (.int r2), .val (.int n1), .val (.int ia), .val (.int ib), .val (.int ic), .unset, .unset, .unset] [(.ref b1)])) (s₁.setTop (entryFrame m #[(.int x0), (.int xpa), (.int xpb), (.int xpc), (.int xr1), (.int xr2)] maxLocals)) := fun t kt => st39 t (ls40 t kt)
      have st45 : own_Go p e below (T40.setTop (mkF m 110 #[.val (.int x0), .val (.int xpa), .val (.int xpb), .val (.int xpc), .val (.int xr1), .val (.int xr2), .val (.int n1), .val (.int n2), .val (.int (0 : Int32)), .val (.int (1 : Int32)), .val (.int r1), .val (.int r2), .val (.int n1), .val (.int ia), .val (.int ib), .val (.int ic), .unset, .unset, .unset] [(.ref b1), (.ref b1)])) (s₁.setTop (entryFrame m #[(.int x0), (.int xpa), (.int xpb), (.int xpc), (.int xr1), (.int xr2)] maxLocals)) := fun t kt => st44 t (by
        show Steps p.tables e below (T40.setTop (mkF m 109 #[.val (.int x0), .val (.int xpa), .val (.int xpb), .val (.int xpc), .val (.int xr1), .val (.int xr2), .val (.int n1), .val (.int n2), .val (.int (0 : Int32)), .val (.int (1 : Int32)), .val (.int r1), .val (.int r2), .val (.int n1), .val (.int ia), .val (.int ib), .val (.int ic), .unset, .unset, .unset] [(.ref b1)])) _
        refine XS.dup X40.here hx rfl (hb hby at_109) rfl rfl ?_
        show Steps p.tables e below (T40.setTop (mkF m 110 #[.val (.int x0), .val (.int xpa), .val (.int xpb), .val (.int xpc), .val (.int xr1), .val (.int xr2), .val (.int n1), .val (.int n2), .val (.int (0 : Int32)), .val (.int (1 : Int32)), .val (.int r1), .val (.int r2), .val (.int n1), .val (.int ia), .val (.int ib), .val (.int ic), .unset, .unset, .unset] [(.ref b1), (.ref b1)])) _
        exact kt)
      obtain ⟨_, _, ⟨T46, L46, k46, n46⟩, -, X46, ⟨Lc46, hQ46, l46, y46, z46⟩, ls46⟩ := X40.specialBack hx (y := (⟨"com/example/saturation/saturation/WalkMemo", "<init>", "()V"⟩ : MethodName)) rfl hown (mvT hZ (hw _ (List.mem_of_getElem? (i := 4) rfl))) (mvT hZ (hw _ (List.mem_of_getElem? (i := 5) rfl))) (mvT hZ (hw _ (List.mem_of_getElem? (i := 6) rfl))) (by decide) (backOf (W := 1) (rm_init l Z a0 hw [] b1 h40 n0 z41 A40 f43 f42 g_b1) hZ (hw _ (List.mem_of_getElem? (i := 6) rfl)) (hw _ (List.mem_of_getElem? (i := 3) rfl)) (by decide) (by decide)) (g := (mkF m 110 #[.val (.int x0), .val (.int xpa), .val (.int xpb), .val (.int xpc), .val (.int xr1), .val (.int xr2), .val (.int n1), .val (.int n2), .val (.int (0 : Int32)), .val (.int (1 : Int32)), .val (.int r1), .val (.int r2), .val (.int n1), .val (.int ia), .val (.int ib), .val (.int ic), .unset, .unset, .unset] [(.ref b1), (.ref b1)])) rfl (by rw [hml]; rfl) (Steps.refl _) (a := b1) (argsL := []) (rest := [(.ref b1)]) (lenOf own_pd2 rfl) rfl (by show 2 * 0 + _ ≤ _; exact Nat.le_of_eq rfl) (hb hby at_110) (fun _ _ => ⟨rfl, e40, (by decide : 1 + 1 ≤ _), (by decide : 2 + 0 ≤ _)⟩)
      dsimp only [Pt.U, Pt.locs, Pt.cells, Pt.slots] at X46 l46 y46 z46 ls46 hQ46
      subst l46 y46 z46
      obtain ⟨rfl, Nq46, Zq46, Mq46⟩ := hQ46
      have N46 := Fr.app N0 Nq46
      have st47 : own_Go p e below (T46.setTop (mkF m 113 #[.val (.int x0), .val (.int xpa), .val (.int xpb), .val (.int xpc), .val (.int xr1), .val (.int xr2), .val (.int n1), .val (.int n2), .val (.int (0 : Int32)), .val (.int (1 : Int32)), .val (.int r1), .val (.int r2), .val (.int n1), .val (.int ia), .val (.int ib), .val (.int ic), .unset, .unset, .unset] [(.ref b1)])) (s₁.setTop (entryFrame m #[(.int x0), (.int xpa), (.int xpb), (.int xpc), (.int xr1), (.int xr2)] maxLocals)) := fun t kt => st45 t (ls46.trans kt)
      have Eq46 := Mq46.1
      have st48 : own_Go p e below (T46.setTop (mkF m 119 #[.val (.int x0), .val (.int xpa), .val (.int xpb), .val (.int xpc), .val (.int xr1), .val (.int xr2), .val (.int n1), .val (.int n2), .val (.int (0 : Int32)), .val (.int (1 : Int32)), .val (.int r1), .val (.int r2), .val (.int n1), .val (.int ia), .val (.int ib), .val (.int ic), .val (.ref b1), .unset, .unset] [(.int n1), (.ref b1)])) (s₁.setTop (entryFrame m #[(.int x0), (.int xpa), (.int xpb), (.int xpc), (.int xr1), (.int xr2)] maxLocals)) := fun t kt => st47 t (by
        show Steps p.tables e below (T46.setTop (mkF m 113 #[.val (.int x0), .val (.int xpa), .val (.int xpb), .val (.int xpc), .val (.int xr1), .val (.int xr2), .val (.int n1), .val (.int n2), .val (.int (0 : Int32)), .val (.int (1 : Int32)), .val (.int r1), .val (.int r2), .val (.int n1), .val (.int ia), .val (.int ib), .val (.int ic), .unset, .unset, .unset] [(.ref b1)])) _
        refine XS.astore X46.here hx rfl (hb hby at_113) rfl rfl (l' := #[.val (.int x0), .val (.int xpa), .val (.int xpb), .val (.int xpc), .val (.int xr1), .val (.int xr2), .val (.int n1), .val (.int n2), .val (.int (0 : Int32)), .val (.int (1 : Int32)), .val (.int r1), .val (.int r2), .val (.int n1), .val (.int ia), .val (.int ib), .val (.int ic), .val (.ref b1), .unset, .unset]) rfl ?_
        show Steps p.tables e below (T46.setTop (mkF m 115 #[.val (.int x0), .val (.int xpa), .val (.int xpb), .val (.int xpc), .val (.int xr1), .val (.int xr2), .val (.int n1), .val (.int n2), .val (.int (0 : Int32)), .val (.int (1 : Int32)), .val (.int r1), .val (.int r2), .val (.int n1), .val (.int ia), .val (.int ib), .val (.int ic), .val (.ref b1), .unset, .unset] [])) _
        refine XS.aload X46.here hx rfl (hb hby at_115) rfl rfl ?_
        show Steps p.tables e below (T46.setTop (mkF m 117 #[.val (.int x0), .val (.int xpa), .val (.int xpb), .val (.int xpc), .val (.int xr1), .val (.int xr2), .val (.int n1), .val (.int n2), .val (.int (0 : Int32)), .val (.int (1 : Int32)), .val (.int r1), .val (.int r2), .val (.int n1), .val (.int ia), .val (.int ib), .val (.int ic), .val (.ref b1), .unset, .unset] [(.ref b1)])) _
        refine XS.iload X46.here hx rfl (hb hby at_117) rfl ?_
        show Steps p.tables e below (T46.setTop (mkF m 119 #[.val (.int x0), .val (.int xpa), .val (.int xpb), .val (.int xpc), .val (.int xr1), .val (.int xr2), .val (.int n1), .val (.int n2), .val (.int (0 : Int32)), .val (.int (1 : Int32)), .val (.int r1), .val (.int r2), .val (.int n1), .val (.int ia), .val (.int ib), .val (.int ic), .val (.ref b1), .unset, .unset] [(.int n1), (.ref b1)])) _
        exact kt)
      obtain ⟨cq49, kq49, q49a, q49b, q49c⟩ := isOf hZ rfl Eq46
      obtain ⟨_, _, ⟨T49, L49, k49, n49⟩, -, X49, ⟨Lc49, hQ49, l49, y49, z49⟩, ls49⟩ := X46.virtualBack hx (y := (⟨"com/example/saturation/saturation/WalkMemo", "start", "(I)V"⟩ : MethodName)) (z := (⟨"com/example/saturation/saturation/WalkMemo", "start", "(I)V"⟩ : MethodName)) hown (mvT hZ (hw _ (List.mem_of_getElem? (i := 13) rfl))) (mvT hZ (hw _ (List.mem_of_getElem? (i := 14) rfl))) (notFace_of_selects (args := #[]) (mvT hZ (hw _ (List.mem_of_getElem? (i := 16) rfl)))) (mvT hZ (hw _ (List.mem_of_getElem? (i := 16) rfl))) (mvT hZ (hw _ (List.mem_of_getElem? (i := 15) rfl))) (by decide) (backOf (W := 0) (rm_start l Z a0 hw [] b1 n1 ((0 : Int32)) 0 ((fun _ => (0 : Int64))) N1 T46.heap n0 Zq46 Mq46 hnn1 hN1 (by omega) (by omega) (by omega) (by decide)) hZ (hw _ (List.mem_of_getElem? (i := 17) rfl)) (hw _ (List.mem_of_getElem? (i := 3) rfl)) (by decide) (by decide)) q49a q49c (g := (mkF m 119 #[.val (.int x0), .val (.int xpa), .val (.int xpb), .val (.int xpc), .val (.int xr1), .val (.int xr2), .val (.int n1), .val (.int n2), .val (.int (0 : Int32)), .val (.int (1 : Int32)), .val (.int r1), .val (.int r2), .val (.int n1), .val (.int ia), .val (.int ib), .val (.int ic), .val (.ref b1), .unset, .unset] [(.int n1), (.ref b1)])) rfl (by rw [hml]; rfl) (Steps.refl _) (argsL := [(.int n1)]) (rest := []) (lenOf own_pd3 rfl) rfl (by show 2 * 0 + _ ≤ _; exact Nat.le_of_eq rfl) (hb hby at_119) (fun _ _ => ⟨rfl, rfl, (by decide : 2 + 1 ≤ _), (by decide : 2 + 16 ≤ _)⟩)
      dsimp only [Pt.U, Pt.locs, Pt.cells, Pt.slots] at X49 l49 y49 z49 ls49 hQ49
      subst l49 y49 z49
      obtain ⟨rfl, Nq49, Zq49, Mq49⟩ := hQ49
      have N49 := Fr.app N46 Nq49
      have st50 : own_Go p e below (T49.setTop (mkF m 122 #[.val (.int x0), .val (.int xpa), .val (.int xpb), .val (.int xpc), .val (.int xr1), .val (.int xr2), .val (.int n1), .val (.int n2), .val (.int (0 : Int32)), .val (.int (1 : Int32)), .val (.int r1), .val (.int r2), .val (.int n1), .val (.int ia), .val (.int ib), .val (.int ic), .val (.ref b1), .unset, .unset] [])) (s₁.setTop (entryFrame m #[(.int x0), (.int xpa), (.int xpb), (.int xpc), (.int xr1), (.int xr2)] maxLocals)) := fun t kt => st48 t (ls49.trans kt)
      have Eq49 := Mq49.1
      have m51 := own_M.to (st' := (1 : Int32)) (n' := N1) (f' := (fun _ => (0 : Int64))) Mq49 (by decide) (by unfold own_nl; rw [if_pos (by omega)]; omega) (fun q hq => by simp)
      have st52 : own_Go p e below (T49.setTop (mkF m 128 #[.val (.int x0), .val (.int xpa), .val (.int xpb), .val (.int xpc), .val (.int xr1), .val (.int xr2), .val (.int n1), .val (.int n2), .val (.int (0 : Int32)), .val (.int (1 : Int32)), .val (.int r1), .val (.int r2), .val (.int n1), .val (.int ia), .val (.int ib), .val (.int ic), .val (.ref b1), .unset, .unset] [(.int r1), (.int ia), (.ref b1)])) (s₁.setTop (entryFrame m #[(.int x0), (.int xpa), (.int xpb), (.int xpc), (.int xr1), (.int xr2)] maxLocals)) := fun t kt => st50 t (by
        show Steps p.tables e below (T49.setTop (mkF m 122 #[.val (.int x0), .val (.int xpa), .val (.int xpb), .val (.int xpc), .val (.int xr1), .val (.int xr2), .val (.int n1), .val (.int n2), .val (.int (0 : Int32)), .val (.int (1 : Int32)), .val (.int r1), .val (.int r2), .val (.int n1), .val (.int ia), .val (.int ib), .val (.int ic), .val (.ref b1), .unset, .unset] [])) _
        refine XS.aload X49.here hx rfl (hb hby at_122) rfl rfl ?_
        show Steps p.tables e below (T49.setTop (mkF m 124 #[.val (.int x0), .val (.int xpa), .val (.int xpb), .val (.int xpc), .val (.int xr1), .val (.int xr2), .val (.int n1), .val (.int n2), .val (.int (0 : Int32)), .val (.int (1 : Int32)), .val (.int r1), .val (.int r2), .val (.int n1), .val (.int ia), .val (.int ib), .val (.int ic), .val (.ref b1), .unset, .unset] [(.ref b1)])) _
        refine XS.iload X49.here hx rfl (hb hby at_124) rfl ?_
        show Steps p.tables e below (T49.setTop (mkF m 126 #[.val (.int x0), .val (.int xpa), .val (.int xpb), .val (.int xpc), .val (.int xr1), .val (.int xr2), .val (.int n1), .val (.int n2), .val (.int (0 : Int32)), .val (.int (1 : Int32)), .val (.int r1), .val (.int r2), .val (.int n1), .val (.int ia), .val (.int ib), .val (.int ic), .val (.ref b1), .unset, .unset] [(.int ia), (.ref b1)])) _
        refine XS.iload X49.here hx rfl (hb hby at_126) rfl ?_
        show Steps p.tables e below (T49.setTop (mkF m 128 #[.val (.int x0), .val (.int xpa), .val (.int xpb), .val (.int xpc), .val (.int xr1), .val (.int xr2), .val (.int n1), .val (.int n2), .val (.int (0 : Int32)), .val (.int (1 : Int32)), .val (.int r1), .val (.int r2), .val (.int n1), .val (.int ia), .val (.int ib), .val (.int ic), .val (.ref b1), .unset, .unset] [(.int r1), (.int ia), (.ref b1)])) _
        exact kt)
      obtain ⟨cq53, kq53, q53a, q53b, q53c⟩ := isOf hZ rfl Eq49
      obtain ⟨_, _, ⟨T53, L53, k53, n53⟩, -, X53, ⟨Lc53, hQ53, l53, y53, z53⟩, ls53⟩ := X49.virtualBack hx (y := (⟨"com/example/saturation/saturation/WalkMemo", "put", "(II)V"⟩ : MethodName)) (z := (⟨"com/example/saturation/saturation/WalkMemo", "put", "(II)V"⟩ : MethodName)) hown (mvT hZ (hw _ (List.mem_of_getElem? (i := 35) rfl))) (mvT hZ (hw _ (List.mem_of_getElem? (i := 36) rfl))) (notFace_of_selects (args := #[]) (mvT hZ (hw _ (List.mem_of_getElem? (i := 38) rfl)))) (mvT hZ (hw _ (List.mem_of_getElem? (i := 38) rfl))) (mvT hZ (hw _ (List.mem_of_getElem? (i := 37) rfl))) (by decide) (backOf (W := 0) (rm_put l Z a0 hw [] b1 ia r1 ((1 : Int32)) N1 ((fun _ => (0 : Int64))) i T49.heap n0 Zq49 m51 i_ia.1 hk_ia i_ia.2) hZ (hw _ (List.mem_of_getElem? (i := 39) rfl)) (hw _ (List.mem_of_getElem? (i := 3) rfl)) (by decide) (by decide)) q53a q53c (g := (mkF m 128 #[.val (.int x0), .val (.int xpa), .val (.int xpb), .val (.int xpc), .val (.int xr1), .val (.int xr2), .val (.int n1), .val (.int n2), .val (.int (0 : Int32)), .val (.int (1 : Int32)), .val (.int r1), .val (.int r2), .val (.int n1), .val (.int ia), .val (.int ib), .val (.int ic), .val (.ref b1), .unset, .unset] [(.int r1), (.int ia), (.ref b1)])) rfl (by rw [hml]; rfl) (Steps.refl _) (argsL := [(.int ia), (.int r1)]) (rest := []) (lenOf own_pd4 rfl) rfl (by show 2 * 0 + _ ≤ _; exact Nat.le_of_eq rfl) (hb hby at_128) (fun _ _ => ⟨rfl, rfl, (by decide : 3 + 0 ≤ _), (by decide : 18 + 0 ≤ _)⟩)
      dsimp only [Pt.U, Pt.locs, Pt.cells, Pt.slots] at X53 l53 y53 z53 ls53 hQ53
      subst l53 y53 z53
      obtain ⟨rfl, Nq53, Zq53, Mq53⟩ := hQ53
      have N53 := Fr.app N49 Nq53
      have st54 : own_Go p e below (T53.setTop (mkF m 131 #[.val (.int x0), .val (.int xpa), .val (.int xpb), .val (.int xpc), .val (.int xr1), .val (.int xr2), .val (.int n1), .val (.int n2), .val (.int (0 : Int32)), .val (.int (1 : Int32)), .val (.int r1), .val (.int r2), .val (.int n1), .val (.int ia), .val (.int ib), .val (.int ic), .val (.ref b1), .unset, .unset] [])) (s₁.setTop (entryFrame m #[(.int x0), (.int xpa), (.int xpb), (.int xpc), (.int xr1), (.int xr2)] maxLocals)) := fun t kt => st52 t (ls53.trans kt)
      have Eq53 := Mq53.1
      have m55 := own_M.to (st' := (1 : Int32)) (n' := N1) (f' := (fun q => if q = i then own_enc 1 r1 else 0)) Mq53 (rfl) (rfl) (fun _ _ => rfl)
      have hc56 : (0 : Int32) = (0 : Int32) := rfl
      have hc57 : ¬ ((1 : Int32) = (0 : Int32)) := by decide
      have st58 : own_Go p e below (T53.setTop (mkF m 154 #[.val (.int x0), .val (.int xpa), .val (.int xpb), .val (.int xpc), .val (.int xr1), .val (.int xr2), .val (.int n1), .val (.int n2), .val (.int (0 : Int32)), .val (.int (1 : Int32)), .val (.int r1), .val (.int r2), .val (.int n1), .val (.int ia), .val (.int ib), .val (.int ic), .val (.ref b1), .unset, .unset] [(.int r2), (.int ib), (.ref b1)])) (s₁.setTop (entryFrame m #[(.int x0), (.int xpa), (.int xpb), (.int xpc), (.int xr1), (.int xr2)] maxLocals)) := fun t kt => st54 t (by
        show Steps p.tables e below (T53.setTop (mkF m 131 #[.val (.int x0), .val (.int xpa), .val (.int xpb), .val (.int xpc), .val (.int xr1), .val (.int xr2), .val (.int n1), .val (.int n2), .val (.int (0 : Int32)), .val (.int (1 : Int32)), .val (.int r1), .val (.int r2), .val (.int n1), .val (.int ia), .val (.int ib), .val (.int ic), .val (.ref b1), .unset, .unset] [])) _
        refine XS.iload X53.here hx rfl (hb hby at_131) rfl ?_
        show Steps p.tables e below (T53.setTop (mkF m 133 #[.val (.int x0), .val (.int xpa), .val (.int xpb), .val (.int xpc), .val (.int xr1), .val (.int xr2), .val (.int n1), .val (.int n2), .val (.int (0 : Int32)), .val (.int (1 : Int32)), .val (.int r1), .val (.int r2), .val (.int n1), .val (.int ia), .val (.int ib), .val (.int ic), .val (.ref b1), .unset, .unset] [(.int (0 : Int32))])) _
        refine XS.ifYes X53.here hx rfl (pc0 := 133) (pc' := 143) rfl (hb hby at_133) rfl ((if0 _ _).trans (teq hc56).1) (by decide) (by decide) ?_
        show Steps p.tables e below (T53.setTop (mkF m 143 #[.val (.int x0), .val (.int xpa), .val (.int xpb), .val (.int xpc), .val (.int xr1), .val (.int xr2), .val (.int n1), .val (.int n2), .val (.int (0 : Int32)), .val (.int (1 : Int32)), .val (.int r1), .val (.int r2), .val (.int n1), .val (.int ia), .val (.int ib), .val (.int ic), .val (.ref b1), .unset, .unset] [])) _
        refine XS.iload X53.here hx rfl (hb hby at_143) rfl ?_
        show Steps p.tables e below (T53.setTop (mkF m 145 #[.val (.int x0), .val (.int xpa), .val (.int xpb), .val (.int xpc), .val (.int xr1), .val (.int xr2), .val (.int n1), .val (.int n2), .val (.int (0 : Int32)), .val (.int (1 : Int32)), .val (.int r1), .val (.int r2), .val (.int n1), .val (.int ia), .val (.int ib), .val (.int ic), .val (.ref b1), .unset, .unset] [(.int (1 : Int32))])) _
        refine XS.ifNo X53.here hx rfl (hb hby at_145) rfl ((if0 _ _).trans (feq hc57).1) ?_
        show Steps p.tables e below (T53.setTop (mkF m 148 #[.val (.int x0), .val (.int xpa), .val (.int xpb), .val (.int xpc), .val (.int xr1), .val (.int xr2), .val (.int n1), .val (.int n2), .val (.int (0 : Int32)), .val (.int (1 : Int32)), .val (.int r1), .val (.int r2), .val (.int n1), .val (.int ia), .val (.int ib), .val (.int ic), .val (.ref b1), .unset, .unset] [])) _
        refine XS.aload X53.here hx rfl (hb hby at_148) rfl rfl ?_
        show Steps p.tables e below (T53.setTop (mkF m 150 #[.val (.int x0), .val (.int xpa), .val (.int xpb), .val (.int xpc), .val (.int xr1), .val (.int xr2), .val (.int n1), .val (.int n2), .val (.int (0 : Int32)), .val (.int (1 : Int32)), .val (.int r1), .val (.int r2), .val (.int n1), .val (.int ia), .val (.int ib), .val (.int ic), .val (.ref b1), .unset, .unset] [(.ref b1)])) _
        refine XS.iload X53.here hx rfl (hb hby at_150) rfl ?_
        show Steps p.tables e below (T53.setTop (mkF m 152 #[.val (.int x0), .val (.int xpa), .val (.int xpb), .val (.int xpc), .val (.int xr1), .val (.int xr2), .val (.int n1), .val (.int n2), .val (.int (0 : Int32)), .val (.int (1 : Int32)), .val (.int r1), .val (.int r2), .val (.int n1), .val (.int ia), .val (.int ib), .val (.int ic), .val (.ref b1), .unset, .unset] [(.int ib), (.ref b1)])) _
        refine XS.iload X53.here hx rfl (hb hby at_152) rfl ?_
        show Steps p.tables e below (T53.setTop (mkF m 154 #[.val (.int x0), .val (.int xpa), .val (.int xpb), .val (.int xpc), .val (.int xr1), .val (.int xr2), .val (.int n1), .val (.int n2), .val (.int (0 : Int32)), .val (.int (1 : Int32)), .val (.int r1), .val (.int r2), .val (.int n1), .val (.int ia), .val (.int ib), .val (.int ic), .val (.ref b1), .unset, .unset] [(.int r2), (.int ib), (.ref b1)])) _
        exact kt)
      obtain ⟨cq59, kq59, q59a, q59b, q59c⟩ := isOf hZ rfl Eq53
      obtain ⟨_, _, ⟨T59, L59, k59, n59⟩, -, X59, ⟨Lc59, hQ59, l59, y59, z59⟩, ls59⟩ := X53.virtualBack hx (y := (⟨"com/example/saturation/saturation/WalkMemo", "put", "(II)V"⟩ : MethodName)) (z := (⟨"com/example/saturation/saturation/WalkMemo", "put", "(II)V"⟩ : MethodName)) hown (mvT hZ (hw _ (List.mem_of_getElem? (i := 35) rfl))) (mvT hZ (hw _ (List.mem_of_getElem? (i := 36) rfl))) (notFace_of_selects (args := #[]) (mvT hZ (hw _ (List.mem_of_getElem? (i := 38) rfl)))) (mvT hZ (hw _ (List.mem_of_getElem? (i := 38) rfl))) (mvT hZ (hw _ (List.mem_of_getElem? (i := 37) rfl))) (by decide) (backOf (W := 0) (rm_put l Z a0 hw [] b1 ib r2 ((1 : Int32)) N1 ((fun q => if q = i then own_enc 1 r1 else 0)) j T53.heap n0 Zq53 m55 i_ib.1 hk_ib i_ib.2) hZ (hw _ (List.mem_of_getElem? (i := 39) rfl)) (hw _ (List.mem_of_getElem? (i := 3) rfl)) (by decide) (by decide)) q59a q59c (g := (mkF m 154 #[.val (.int x0), .val (.int xpa), .val (.int xpb), .val (.int xpc), .val (.int xr1), .val (.int xr2), .val (.int n1), .val (.int n2), .val (.int (0 : Int32)), .val (.int (1 : Int32)), .val (.int r1), .val (.int r2), .val (.int n1), .val (.int ia), .val (.int ib), .val (.int ic), .val (.ref b1), .unset, .unset] [(.int r2), (.int ib), (.ref b1)])) rfl (by rw [hml]; rfl) (Steps.refl _) (argsL := [(.int ib), (.int r2)]) (rest := []) (lenOf own_pd4 rfl) rfl (by show 2 * 0 + _ ≤ _; exact Nat.le_of_eq rfl) (hb hby at_154) (fun _ _ => ⟨rfl, rfl, (by decide : 3 + 0 ≤ _), (by decide : 18 + 0 ≤ _)⟩)
      dsimp only [Pt.U, Pt.locs, Pt.cells, Pt.slots] at X59 l59 y59 z59 ls59 hQ59
      subst l59 y59 z59
      obtain ⟨rfl, Nq59, Zq59, Mq59⟩ := hQ59
      have N59 := Fr.app N53 Nq59
      have st60 : own_Go p e below (T59.setTop (mkF m 157 #[.val (.int x0), .val (.int xpa), .val (.int xpb), .val (.int xpc), .val (.int xr1), .val (.int xr2), .val (.int n1), .val (.int n2), .val (.int (0 : Int32)), .val (.int (1 : Int32)), .val (.int r1), .val (.int r2), .val (.int n1), .val (.int ia), .val (.int ib), .val (.int ic), .val (.ref b1), .unset, .unset] [])) (s₁.setTop (entryFrame m #[(.int x0), (.int xpa), (.int xpb), (.int xpc), (.int xr1), (.int xr2)] maxLocals)) := fun t kt => st58 t (ls59.trans kt)
      have Eq59 := Mq59.1
      have m61 := own_M.to (st' := (1 : Int32)) (n' := N1) (f' := (fun q => if q = j then own_enc 1 r2 else if q = i then own_enc 1 r1 else 0)) Mq59 (rfl) (rfl) (fun _ _ => rfl)
      have st62 : own_Go p e below (T59.setTop (mkF m 161 #[.val (.int x0), .val (.int xpa), .val (.int xpb), .val (.int xpc), .val (.int xr1), .val (.int xr2), .val (.int n1), .val (.int n2), .val (.int (0 : Int32)), .val (.int (1 : Int32)), .val (.int r1), .val (.int r2), .val (.int n1), .val (.int ia), .val (.int ib), .val (.int ic), .val (.ref b1), .unset, .unset] [(.int ic), (.ref b1)])) (s₁.setTop (entryFrame m #[(.int x0), (.int xpa), (.int xpb), (.int xpc), (.int xr1), (.int xr2)] maxLocals)) := fun t kt => st60 t (by
        show Steps p.tables e below (T59.setTop (mkF m 157 #[.val (.int x0), .val (.int xpa), .val (.int xpb), .val (.int xpc), .val (.int xr1), .val (.int xr2), .val (.int n1), .val (.int n2), .val (.int (0 : Int32)), .val (.int (1 : Int32)), .val (.int r1), .val (.int r2), .val (.int n1), .val (.int ia), .val (.int ib), .val (.int ic), .val (.ref b1), .unset, .unset] [])) _
        refine XS.aload X59.here hx rfl (hb hby at_157) rfl rfl ?_
        show Steps p.tables e below (T59.setTop (mkF m 159 #[.val (.int x0), .val (.int xpa), .val (.int xpb), .val (.int xpc), .val (.int xr1), .val (.int xr2), .val (.int n1), .val (.int n2), .val (.int (0 : Int32)), .val (.int (1 : Int32)), .val (.int r1), .val (.int r2), .val (.int n1), .val (.int ia), .val (.int ib), .val (.int ic), .val (.ref b1), .unset, .unset] [(.ref b1)])) _
        refine XS.iload X59.here hx rfl (hb hby at_159) rfl ?_
        show Steps p.tables e below (T59.setTop (mkF m 161 #[.val (.int x0), .val (.int xpa), .val (.int xpb), .val (.int xpc), .val (.int xr1), .val (.int xr2), .val (.int n1), .val (.int n2), .val (.int (0 : Int32)), .val (.int (1 : Int32)), .val (.int r1), .val (.int r2), .val (.int n1), .val (.int ia), .val (.int ib), .val (.int ic), .val (.ref b1), .unset, .unset] [(.int ic), (.ref b1)])) _
        exact kt)
      obtain ⟨cq63, kq63, q63a, q63b, q63c⟩ := isOf hZ rfl Eq59
      obtain ⟨_, _, ⟨T63, L63, k63, n63⟩, -, X63, ⟨Lc63, hQ63, l63, y63, z63⟩, ls63⟩ := X59.virtualBack hx (y := (⟨"com/example/saturation/saturation/WalkMemo", "get", "(I)I"⟩ : MethodName)) (z := (⟨"com/example/saturation/saturation/WalkMemo", "get", "(I)I"⟩ : MethodName)) hown (mvT hZ (hw _ (List.mem_of_getElem? (i := 40) rfl))) (mvT hZ (hw _ (List.mem_of_getElem? (i := 41) rfl))) (notFace_of_selects (args := #[]) (mvT hZ (hw _ (List.mem_of_getElem? (i := 43) rfl)))) (mvT hZ (hw _ (List.mem_of_getElem? (i := 43) rfl))) (mvT hZ (hw _ (List.mem_of_getElem? (i := 42) rfl))) (by decide) (backOf (W := 0) (rm_get l Z a0 hw [] b1 ic ((1 : Int32)) N1 ((fun q => if q = j then own_enc 1 r2 else if q = i then own_enc 1 r1 else 0)) k T59.heap n0 Zq59 m61 i_ic.1 hk_ic i_ic.2) hZ (hw _ (List.mem_of_getElem? (i := 44) rfl)) (hw _ (List.mem_of_getElem? (i := 3) rfl)) (by decide) (by decide)) q63a q63c (g := (mkF m 161 #[.val (.int x0), .val (.int xpa), .val (.int xpb), .val (.int xpc), .val (.int xr1), .val (.int xr2), .val (.int n1), .val (.int n2), .val (.int (0 : Int32)), .val (.int (1 : Int32)), .val (.int r1), .val (.int r2), .val (.int n1), .val (.int ia), .val (.int ib), .val (.int ic), .val (.ref b1), .unset, .unset] [(.int ic), (.ref b1)])) rfl (by rw [hml]; rfl) (Steps.refl _) (argsL := [(.int ic)]) (rest := []) (lenOf own_pd5 rfl) rfl (by show 2 * 0 + _ ≤ _; exact Nat.le_of_eq rfl) (hb hby at_161) (fun _ _ => ⟨rfl, rfl, (by decide : 3 + 0 ≤ _), (by decide : 18 + 0 ≤ _)⟩)
      dsimp only [Pt.U, Pt.locs, Pt.cells, Pt.slots] at X63 l63 y63 z63 ls63 hQ63
      subst l63 y63 z63
      obtain ⟨rfl, Nq63, eq63⟩ := hQ63
      have N63 := Fr.app N59 Nq63
      have st64 : own_Go p e below (T63.setTop (mkF m 164 #[.val (.int x0), .val (.int xpa), .val (.int xpb), .val (.int xpc), .val (.int xr1), .val (.int xr2), .val (.int n1), .val (.int n2), .val (.int (0 : Int32)), .val (.int (1 : Int32)), .val (.int r1), .val (.int r2), .val (.int n1), .val (.int ia), .val (.int ib), .val (.int ic), .val (.ref b1), .unset, .unset] [(.int (own_get (1 : Int32) ((fun q => if q = j then own_enc 1 r2 else if q = i then own_enc 1 r1 else 0) k)))])) (s₁.setTop (entryFrame m #[(.int x0), (.int xpa), (.int xpb), (.int xpc), (.int xr1), (.int xr2)] maxLocals)) := fun t kt => st62 t (ls63.trans kt)
      have st65 : own_Go p e below (T63.setTop (mkF m 170 #[.val (.int x0), .val (.int xpa), .val (.int xpb), .val (.int xpc), .val (.int xr1), .val (.int xr2), .val (.int n1), .val (.int n2), .val (.int (0 : Int32)), .val (.int (1 : Int32)), .val (.int r1), .val (.int r2), .val (.int n1), .val (.int ia), .val (.int ib), .val (.int ic), .val (.ref b1), .val (.int (own_get (1 : Int32) ((fun q => if q = j then own_enc 1 r2 else if q = i then own_enc 1 r1 else 0) k))), .unset] [(.int ia), (.ref b1)])) (s₁.setTop (entryFrame m #[(.int x0), (.int xpa), (.int xpb), (.int xpc), (.int xr1), (.int xr2)] maxLocals)) := fun t kt => st64 t (by
        show Steps p.tables e below (T63.setTop (mkF m 164 #[.val (.int x0), .val (.int xpa), .val (.int xpb), .val (.int xpc), .val (.int xr1), .val (.int xr2), .val (.int n1), .val (.int n2), .val (.int (0 : Int32)), .val (.int (1 : Int32)), .val (.int r1), .val (.int r2), .val (.int n1), .val (.int ia), .val (.int ib), .val (.int ic), .val (.ref b1), .unset, .unset] [(.int (own_get (1 : Int32) ((fun q => if q = j then own_enc 1 r2 else if q = i then own_enc 1 r1 else 0) k)))])) _
        refine XS.istore X63.here hx rfl (hb hby at_164) rfl (l' := #[.val (.int x0), .val (.int xpa), .val (.int xpb), .val (.int xpc), .val (.int xr1), .val (.int xr2), .val (.int n1), .val (.int n2), .val (.int (0 : Int32)), .val (.int (1 : Int32)), .val (.int r1), .val (.int r2), .val (.int n1), .val (.int ia), .val (.int ib), .val (.int ic), .val (.ref b1), .val (.int (own_get (1 : Int32) ((fun q => if q = j then own_enc 1 r2 else if q = i then own_enc 1 r1 else 0) k))), .unset]) rfl ?_
        show Steps p.tables e below (T63.setTop (mkF m 166 #[.val (.int x0), .val (.int xpa), .val (.int xpb), .val (.int xpc), .val (.int xr1), .val (.int xr2), .val (.int n1), .val (.int n2), .val (.int (0 : Int32)), .val (.int (1 : Int32)), .val (.int r1), .val (.int r2), .val (.int n1), .val (.int ia), .val (.int ib), .val (.int ic), .val (.ref b1), .val (.int (own_get (1 : Int32) ((fun q => if q = j then own_enc 1 r2 else if q = i then own_enc 1 r1 else 0) k))), .unset] [])) _
        refine XS.aload X63.here hx rfl (hb hby at_166) rfl rfl ?_
        show Steps p.tables e below (T63.setTop (mkF m 168 #[.val (.int x0), .val (.int xpa), .val (.int xpb), .val (.int xpc), .val (.int xr1), .val (.int xr2), .val (.int n1), .val (.int n2), .val (.int (0 : Int32)), .val (.int (1 : Int32)), .val (.int r1), .val (.int r2), .val (.int n1), .val (.int ia), .val (.int ib), .val (.int ic), .val (.ref b1), .val (.int (own_get (1 : Int32) ((fun q => if q = j then own_enc 1 r2 else if q = i then own_enc 1 r1 else 0) k))), .unset] [(.ref b1)])) _
        refine XS.iload X63.here hx rfl (hb hby at_168) rfl ?_
        show Steps p.tables e below (T63.setTop (mkF m 170 #[.val (.int x0), .val (.int xpa), .val (.int xpb), .val (.int xpc), .val (.int xr1), .val (.int xr2), .val (.int n1), .val (.int n2), .val (.int (0 : Int32)), .val (.int (1 : Int32)), .val (.int r1), .val (.int r2), .val (.int n1), .val (.int ia), .val (.int ib), .val (.int ic), .val (.ref b1), .val (.int (own_get (1 : Int32) ((fun q => if q = j then own_enc 1 r2 else if q = i then own_enc 1 r1 else 0) k))), .unset] [(.int ia), (.ref b1)])) _
        exact kt)
      obtain ⟨cq66, kq66, q66a, q66b, q66c⟩ := isOf hZ eq63 Eq59
      obtain ⟨_, _, ⟨T66, L66, k66, n66⟩, -, X66, ⟨Lc66, hQ66, l66, y66, z66⟩, ls66⟩ := X63.virtualBack hx (y := (⟨"com/example/saturation/saturation/WalkMemo", "get", "(I)I"⟩ : MethodName)) (z := (⟨"com/example/saturation/saturation/WalkMemo", "get", "(I)I"⟩ : MethodName)) hown (mvT hZ (hw _ (List.mem_of_getElem? (i := 40) rfl))) (mvT hZ (hw _ (List.mem_of_getElem? (i := 41) rfl))) (notFace_of_selects (args := #[]) (mvT hZ (hw _ (List.mem_of_getElem? (i := 43) rfl)))) (mvT hZ (hw _ (List.mem_of_getElem? (i := 43) rfl))) (mvT hZ (hw _ (List.mem_of_getElem? (i := 42) rfl))) (by decide) (backOf (W := 0) (rm_get l Z a0 hw [] b1 ia ((1 : Int32)) N1 ((fun q => if q = j then own_enc 1 r2 else if q = i then own_enc 1 r1 else 0)) i T59.heap n0 Zq59 m61 i_ia.1 hk_ia i_ia.2) hZ (hw _ (List.mem_of_getElem? (i := 44) rfl)) (hw _ (List.mem_of_getElem? (i := 3) rfl)) (by decide) (by decide)) q66a q66c (g := (mkF m 170 #[.val (.int x0), .val (.int xpa), .val (.int xpb), .val (.int xpc), .val (.int xr1), .val (.int xr2), .val (.int n1), .val (.int n2), .val (.int (0 : Int32)), .val (.int (1 : Int32)), .val (.int r1), .val (.int r2), .val (.int n1), .val (.int ia), .val (.int ib), .val (.int ic), .val (.ref b1), .val (.int (own_get (1 : Int32) ((fun q => if q = j then own_enc 1 r2 else if q = i then own_enc 1 r1 else 0) k))), .unset] [(.int ia), (.ref b1)])) rfl (by rw [hml]; rfl) (Steps.refl _) (argsL := [(.int ia)]) (rest := []) (lenOf own_pd5 rfl) rfl (by show 2 * 0 + _ ≤ _; exact Nat.le_of_eq rfl) (hb hby at_170) (fun _ _ => ⟨rfl, eq63, (by decide : 3 + 0 ≤ _), (by decide : 18 + 0 ≤ _)⟩)
      dsimp only [Pt.U, Pt.locs, Pt.cells, Pt.slots] at X66 l66 y66 z66 ls66 hQ66
      subst l66 y66 z66
      obtain ⟨rfl, Nq66, eq66⟩ := hQ66
      have N66 := Fr.app N63 Nq66
      have st67 : own_Go p e below (T66.setTop (mkF m 173 #[.val (.int x0), .val (.int xpa), .val (.int xpb), .val (.int xpc), .val (.int xr1), .val (.int xr2), .val (.int n1), .val (.int n2), .val (.int (0 : Int32)), .val (.int (1 : Int32)), .val (.int r1), .val (.int r2), .val (.int n1), .val (.int ia), .val (.int ib), .val (.int ic), .val (.ref b1), .val (.int (own_get (1 : Int32) ((fun q => if q = j then own_enc 1 r2 else if q = i then own_enc 1 r1 else 0) k))), .unset] [(.int (own_get (1 : Int32) ((fun q => if q = j then own_enc 1 r2 else if q = i then own_enc 1 r1 else 0) i)))])) (s₁.setTop (entryFrame m #[(.int x0), (.int xpa), (.int xpb), (.int xpc), (.int xr1), (.int xr2)] maxLocals)) := fun t kt => st65 t (ls66.trans kt)
      have st68 : own_Go p e below (T66.setTop (mkF m 191 #[.val (.int x0), .val (.int xpa), .val (.int xpb), .val (.int xpc), .val (.int xr1), .val (.int xr2), .val (.int n1), .val (.int n2), .val (.int (0 : Int32)), .val (.int (1 : Int32)), .val (.int r1), .val (.int r2), .val (.int n1), .val (.int ia), .val (.int ib), .val (.int ic), .val (.ref b1), .val (.int (own_get (1 : Int32) ((fun q => if q = j then own_enc 1 r2 else if q = i then own_enc 1 r1 else 0) k))), .val (.int (own_get (1 : Int32) ((fun q => if q = j then own_enc 1 r2 else if q = i then own_enc 1 r1 else 0) i)))] [(.int r2), (.int r1), (.int (1 : Int32)), (.int (0 : Int32)), (.int ib), (.int ia), (.int ic), (.int (own_get (1 : Int32) ((fun q => if q = j then own_enc 1 r2 else if q = i then own_enc 1 r1 else 0) k)))])) (s₁.setTop (entryFrame m #[(.int x0), (.int xpa), (.int xpb), (.int xpc), (.int xr1), (.int xr2)] maxLocals)) := fun t kt => st67 t (by
        show Steps p.tables e below (T66.setTop (mkF m 173 #[.val (.int x0), .val (.int xpa), .val (.int xpb), .val (.int xpc), .val (.int xr1), .val (.int xr2), .val (.int n1), .val (.int n2), .val (.int (0 : Int32)), .val (.int (1 : Int32)), .val (.int r1), .val (.int r2), .val (.int n1), .val (.int ia), .val (.int ib), .val (.int ic), .val (.ref b1), .val (.int (own_get (1 : Int32) ((fun q => if q = j then own_enc 1 r2 else if q = i then own_enc 1 r1 else 0) k))), .unset] [(.int (own_get (1 : Int32) ((fun q => if q = j then own_enc 1 r2 else if q = i then own_enc 1 r1 else 0) i)))])) _
        refine XS.istore X66.here hx rfl (hb hby at_173) rfl (l' := #[.val (.int x0), .val (.int xpa), .val (.int xpb), .val (.int xpc), .val (.int xr1), .val (.int xr2), .val (.int n1), .val (.int n2), .val (.int (0 : Int32)), .val (.int (1 : Int32)), .val (.int r1), .val (.int r2), .val (.int n1), .val (.int ia), .val (.int ib), .val (.int ic), .val (.ref b1), .val (.int (own_get (1 : Int32) ((fun q => if q = j then own_enc 1 r2 else if q = i then own_enc 1 r1 else 0) k))), .val (.int (own_get (1 : Int32) ((fun q => if q = j then own_enc 1 r2 else if q = i then own_enc 1 r1 else 0) i)))]) rfl ?_
        show Steps p.tables e below (T66.setTop (mkF m 175 #[.val (.int x0), .val (.int xpa), .val (.int xpb), .val (.int xpc), .val (.int xr1), .val (.int xr2), .val (.int n1), .val (.int n2), .val (.int (0 : Int32)), .val (.int (1 : Int32)), .val (.int r1), .val (.int r2), .val (.int n1), .val (.int ia), .val (.int ib), .val (.int ic), .val (.ref b1), .val (.int (own_get (1 : Int32) ((fun q => if q = j then own_enc 1 r2 else if q = i then own_enc 1 r1 else 0) k))), .val (.int (own_get (1 : Int32) ((fun q => if q = j then own_enc 1 r2 else if q = i then own_enc 1 r1 else 0) i)))] [])) _
        refine XS.iload X66.here hx rfl (hb hby at_175) rfl ?_
        show Steps p.tables e below (T66.setTop (mkF m 177 #[.val (.int x0), .val (.int xpa), .val (.int xpb), .val (.int xpc), .val (.int xr1), .val (.int xr2), .val (.int n1), .val (.int n2), .val (.int (0 : Int32)), .val (.int (1 : Int32)), .val (.int r1), .val (.int r2), .val (.int n1), .val (.int ia), .val (.int ib), .val (.int ic), .val (.ref b1), .val (.int (own_get (1 : Int32) ((fun q => if q = j then own_enc 1 r2 else if q = i then own_enc 1 r1 else 0) k))), .val (.int (own_get (1 : Int32) ((fun q => if q = j then own_enc 1 r2 else if q = i then own_enc 1 r1 else 0) i)))] [(.int (own_get (1 : Int32) ((fun q => if q = j then own_enc 1 r2 else if q = i then own_enc 1 r1 else 0) k)))])) _
        refine XS.iload X66.here hx rfl (hb hby at_177) rfl ?_
        show Steps p.tables e below (T66.setTop (mkF m 179 #[.val (.int x0), .val (.int xpa), .val (.int xpb), .val (.int xpc), .val (.int xr1), .val (.int xr2), .val (.int n1), .val (.int n2), .val (.int (0 : Int32)), .val (.int (1 : Int32)), .val (.int r1), .val (.int r2), .val (.int n1), .val (.int ia), .val (.int ib), .val (.int ic), .val (.ref b1), .val (.int (own_get (1 : Int32) ((fun q => if q = j then own_enc 1 r2 else if q = i then own_enc 1 r1 else 0) k))), .val (.int (own_get (1 : Int32) ((fun q => if q = j then own_enc 1 r2 else if q = i then own_enc 1 r1 else 0) i)))] [(.int ic), (.int (own_get (1 : Int32) ((fun q => if q = j then own_enc 1 r2 else if q = i then own_enc 1 r1 else 0) k)))])) _
        refine XS.iload X66.here hx rfl (hb hby at_179) rfl ?_
        show Steps p.tables e below (T66.setTop (mkF m 181 #[.val (.int x0), .val (.int xpa), .val (.int xpb), .val (.int xpc), .val (.int xr1), .val (.int xr2), .val (.int n1), .val (.int n2), .val (.int (0 : Int32)), .val (.int (1 : Int32)), .val (.int r1), .val (.int r2), .val (.int n1), .val (.int ia), .val (.int ib), .val (.int ic), .val (.ref b1), .val (.int (own_get (1 : Int32) ((fun q => if q = j then own_enc 1 r2 else if q = i then own_enc 1 r1 else 0) k))), .val (.int (own_get (1 : Int32) ((fun q => if q = j then own_enc 1 r2 else if q = i then own_enc 1 r1 else 0) i)))] [(.int ia), (.int ic), (.int (own_get (1 : Int32) ((fun q => if q = j then own_enc 1 r2 else if q = i then own_enc 1 r1 else 0) k)))])) _
        refine XS.iload X66.here hx rfl (hb hby at_181) rfl ?_
        show Steps p.tables e below (T66.setTop (mkF m 183 #[.val (.int x0), .val (.int xpa), .val (.int xpb), .val (.int xpc), .val (.int xr1), .val (.int xr2), .val (.int n1), .val (.int n2), .val (.int (0 : Int32)), .val (.int (1 : Int32)), .val (.int r1), .val (.int r2), .val (.int n1), .val (.int ia), .val (.int ib), .val (.int ic), .val (.ref b1), .val (.int (own_get (1 : Int32) ((fun q => if q = j then own_enc 1 r2 else if q = i then own_enc 1 r1 else 0) k))), .val (.int (own_get (1 : Int32) ((fun q => if q = j then own_enc 1 r2 else if q = i then own_enc 1 r1 else 0) i)))] [(.int ib), (.int ia), (.int ic), (.int (own_get (1 : Int32) ((fun q => if q = j then own_enc 1 r2 else if q = i then own_enc 1 r1 else 0) k)))])) _
        refine XS.iload X66.here hx rfl (hb hby at_183) rfl ?_
        show Steps p.tables e below (T66.setTop (mkF m 185 #[.val (.int x0), .val (.int xpa), .val (.int xpb), .val (.int xpc), .val (.int xr1), .val (.int xr2), .val (.int n1), .val (.int n2), .val (.int (0 : Int32)), .val (.int (1 : Int32)), .val (.int r1), .val (.int r2), .val (.int n1), .val (.int ia), .val (.int ib), .val (.int ic), .val (.ref b1), .val (.int (own_get (1 : Int32) ((fun q => if q = j then own_enc 1 r2 else if q = i then own_enc 1 r1 else 0) k))), .val (.int (own_get (1 : Int32) ((fun q => if q = j then own_enc 1 r2 else if q = i then own_enc 1 r1 else 0) i)))] [(.int (0 : Int32)), (.int ib), (.int ia), (.int ic), (.int (own_get (1 : Int32) ((fun q => if q = j then own_enc 1 r2 else if q = i then own_enc 1 r1 else 0) k)))])) _
        refine XS.iload X66.here hx rfl (hb hby at_185) rfl ?_
        show Steps p.tables e below (T66.setTop (mkF m 187 #[.val (.int x0), .val (.int xpa), .val (.int xpb), .val (.int xpc), .val (.int xr1), .val (.int xr2), .val (.int n1), .val (.int n2), .val (.int (0 : Int32)), .val (.int (1 : Int32)), .val (.int r1), .val (.int r2), .val (.int n1), .val (.int ia), .val (.int ib), .val (.int ic), .val (.ref b1), .val (.int (own_get (1 : Int32) ((fun q => if q = j then own_enc 1 r2 else if q = i then own_enc 1 r1 else 0) k))), .val (.int (own_get (1 : Int32) ((fun q => if q = j then own_enc 1 r2 else if q = i then own_enc 1 r1 else 0) i)))] [(.int (1 : Int32)), (.int (0 : Int32)), (.int ib), (.int ia), (.int ic), (.int (own_get (1 : Int32) ((fun q => if q = j then own_enc 1 r2 else if q = i then own_enc 1 r1 else 0) k)))])) _
        refine XS.iload X66.here hx rfl (hb hby at_187) rfl ?_
        show Steps p.tables e below (T66.setTop (mkF m 189 #[.val (.int x0), .val (.int xpa), .val (.int xpb), .val (.int xpc), .val (.int xr1), .val (.int xr2), .val (.int n1), .val (.int n2), .val (.int (0 : Int32)), .val (.int (1 : Int32)), .val (.int r1), .val (.int r2), .val (.int n1), .val (.int ia), .val (.int ib), .val (.int ic), .val (.ref b1), .val (.int (own_get (1 : Int32) ((fun q => if q = j then own_enc 1 r2 else if q = i then own_enc 1 r1 else 0) k))), .val (.int (own_get (1 : Int32) ((fun q => if q = j then own_enc 1 r2 else if q = i then own_enc 1 r1 else 0) i)))] [(.int r1), (.int (1 : Int32)), (.int (0 : Int32)), (.int ib), (.int ia), (.int ic), (.int (own_get (1 : Int32) ((fun q => if q = j then own_enc 1 r2 else if q = i then own_enc 1 r1 else 0) k)))])) _
        refine XS.iload X66.here hx rfl (hb hby at_189) rfl ?_
        show Steps p.tables e below (T66.setTop (mkF m 191 #[.val (.int x0), .val (.int xpa), .val (.int xpb), .val (.int xpc), .val (.int xr1), .val (.int xr2), .val (.int n1), .val (.int n2), .val (.int (0 : Int32)), .val (.int (1 : Int32)), .val (.int r1), .val (.int r2), .val (.int n1), .val (.int ia), .val (.int ib), .val (.int ic), .val (.ref b1), .val (.int (own_get (1 : Int32) ((fun q => if q = j then own_enc 1 r2 else if q = i then own_enc 1 r1 else 0) k))), .val (.int (own_get (1 : Int32) ((fun q => if q = j then own_enc 1 r2 else if q = i then own_enc 1 r1 else 0) i)))] [(.int r2), (.int r1), (.int (1 : Int32)), (.int (0 : Int32)), (.int ib), (.int ia), (.int ic), (.int (own_get (1 : Int32) ((fun q => if q = j then own_enc 1 r2 else if q = i then own_enc 1 r1 else 0) k)))])) _
        exact kt)
      obtain ⟨_, _, ⟨T69, L69, k69, n69⟩, -, X69, ⟨Lc69, hQ69, l69, y69, z69⟩, ls69⟩ := Jvm.LawKit.callS X66 hx (y := (⟨"com/example/saturation/saturation/WalkMemoGetPinLaw", "expect", "(IIIZZII)I"⟩ : MethodName)) hown (mvT hZ (hw _ (List.mem_of_getElem? (i := 45) rfl))) (mvT hZ (hw _ (List.mem_of_getElem? (i := 46) rfl))) (mvT hZ (hw _ (List.mem_of_getElem? (i := 47) rfl))) (mvT hZ (hw _ (List.mem_of_getElem? (i := 48) rfl))) (by decide) (backOf (W := 1) (rm_exp l Z a0 hw [] ic ia ib ((0 : Int32)) ((1 : Int32)) r1 r2 T59.heap n0 Zq59) hZ (hw _ (List.mem_of_getElem? (i := 48) rfl)) (hw _ (List.mem_of_getElem? (i := 47) rfl)) (by decide) (by decide)) (g := (mkF m 191 #[.val (.int x0), .val (.int xpa), .val (.int xpb), .val (.int xpc), .val (.int xr1), .val (.int xr2), .val (.int n1), .val (.int n2), .val (.int (0 : Int32)), .val (.int (1 : Int32)), .val (.int r1), .val (.int r2), .val (.int n1), .val (.int ia), .val (.int ib), .val (.int ic), .val (.ref b1), .val (.int (own_get (1 : Int32) ((fun q => if q = j then own_enc 1 r2 else if q = i then own_enc 1 r1 else 0) k))), .val (.int (own_get (1 : Int32) ((fun q => if q = j then own_enc 1 r2 else if q = i then own_enc 1 r1 else 0) i)))] [(.int r2), (.int r1), (.int (1 : Int32)), (.int (0 : Int32)), (.int ib), (.int ia), (.int ic), (.int (own_get (1 : Int32) ((fun q => if q = j then own_enc 1 r2 else if q = i then own_enc 1 r1 else 0) k)))])) rfl (by rw [hml]; rfl) (argsL := [(.int ic), (.int ia), (.int ib), (.int (0 : Int32)), (.int (1 : Int32)), (.int r1), (.int r2)]) (rest := [(.int (own_get (1 : Int32) ((fun q => if q = j then own_enc 1 r2 else if q = i then own_enc 1 r1 else 0) k)))]) (lenOf own_pd6 rfl) rfl (by show 2 * 0 + _ ≤ _; exact Nat.le_of_eq rfl) (hb hby at_191) (fun _ _ => ⟨rfl, eq66, (by decide : 3 + 0 ≤ _), (by decide : 18 + 0 ≤ _)⟩)
      dsimp only [Pt.U, Pt.locs, Pt.cells, Pt.slots] at X69 l69 y69 z69 ls69 hQ69
      subst l69 y69 z69
      obtain ⟨rfl, Nq69, eq69⟩ := hQ69
      have N69 := Fr.app N66 Nq69
      have st70 : own_Go p e below (T69.setTop (mkF m 194 #[.val (.int x0), .val (.int xpa), .val (.int xpb), .val (.int xpc), .val (.int xr1), .val (.int xr2), .val (.int n1), .val (.int n2), .val (.int (0 : Int32)), .val (.int (1 : Int32)), .val (.int r1), .val (.int r2), .val (.int n1), .val (.int ia), .val (.int ib), .val (.int ic), .val (.ref b1), .val (.int (own_get (1 : Int32) ((fun q => if q = j then own_enc 1 r2 else if q = i then own_enc 1 r1 else 0) k))), .val (.int (own_get (1 : Int32) ((fun q => if q = j then own_enc 1 r2 else if q = i then own_enc 1 r1 else 0) i)))] [(.int (own_exp ic ia ib (0 : Int32) (1 : Int32) r1 r2)), (.int (own_get (1 : Int32) ((fun q => if q = j then own_enc 1 r2 else if q = i then own_enc 1 r1 else 0) k)))])) (s₁.setTop (entryFrame m #[(.int x0), (.int xpa), (.int xpb), (.int xpc), (.int xr1), (.int xr2)] maxLocals)) := fun t kt => st68 t (ls69 t kt)
      have hc71 : (own_get (1 : Int32) ((fun q => if q = j then own_enc 1 r2 else if q = i then own_enc 1 r1 else 0) k)) = (own_exp ic ia ib (0 : Int32) (1 : Int32) r1 r2) := own_L01 (own_ix i_ic.1 i_ia.1 hk_ic hk_ia) (own_ix i_ic.1 i_ib.1 hk_ic hk_ib) p1 p2
      have st72 : own_Go p e below (T69.setTop (mkF m 213 #[.val (.int x0), .val (.int xpa), .val (.int xpb), .val (.int xpc), .val (.int xr1), .val (.int xr2), .val (.int n1), .val (.int n2), .val (.int (0 : Int32)), .val (.int (1 : Int32)), .val (.int r1), .val (.int r2), .val (.int n1), .val (.int ia), .val (.int ib), .val (.int ic), .val (.ref b1), .val (.int (own_get (1 : Int32) ((fun q => if q = j then own_enc 1 r2 else if q = i then own_enc 1 r1 else 0) k))), .val (.int (own_get (1 : Int32) ((fun q => if q = j then own_enc 1 r2 else if q = i then own_enc 1 r1 else 0) i)))] [(.int r2), (.int r1), (.int (1 : Int32)), (.int (0 : Int32)), (.int ib), (.int ia), (.int ia), (.int (own_get (1 : Int32) ((fun q => if q = j then own_enc 1 r2 else if q = i then own_enc 1 r1 else 0) i)))])) (s₁.setTop (entryFrame m #[(.int x0), (.int xpa), (.int xpb), (.int xpc), (.int xr1), (.int xr2)] maxLocals)) := fun t kt => st70 t (by
        show Steps p.tables e below (T69.setTop (mkF m 194 #[.val (.int x0), .val (.int xpa), .val (.int xpb), .val (.int xpc), .val (.int xr1), .val (.int xr2), .val (.int n1), .val (.int n2), .val (.int (0 : Int32)), .val (.int (1 : Int32)), .val (.int r1), .val (.int r2), .val (.int n1), .val (.int ia), .val (.int ib), .val (.int ic), .val (.ref b1), .val (.int (own_get (1 : Int32) ((fun q => if q = j then own_enc 1 r2 else if q = i then own_enc 1 r1 else 0) k))), .val (.int (own_get (1 : Int32) ((fun q => if q = j then own_enc 1 r2 else if q = i then own_enc 1 r1 else 0) i)))] [(.int (own_exp ic ia ib (0 : Int32) (1 : Int32) r1 r2)), (.int (own_get (1 : Int32) ((fun q => if q = j then own_enc 1 r2 else if q = i then own_enc 1 r1 else 0) k)))])) _
        refine XS.icmpNo X69.here hx rfl (hb hby at_194) rfl (teq hc71).2 ?_
        show Steps p.tables e below (T69.setTop (mkF m 197 #[.val (.int x0), .val (.int xpa), .val (.int xpb), .val (.int xpc), .val (.int xr1), .val (.int xr2), .val (.int n1), .val (.int n2), .val (.int (0 : Int32)), .val (.int (1 : Int32)), .val (.int r1), .val (.int r2), .val (.int n1), .val (.int ia), .val (.int ib), .val (.int ic), .val (.ref b1), .val (.int (own_get (1 : Int32) ((fun q => if q = j then own_enc 1 r2 else if q = i then own_enc 1 r1 else 0) k))), .val (.int (own_get (1 : Int32) ((fun q => if q = j then own_enc 1 r2 else if q = i then own_enc 1 r1 else 0) i)))] [])) _
        refine XS.iload X69.here hx rfl (hb hby at_197) rfl ?_
        show Steps p.tables e below (T69.setTop (mkF m 199 #[.val (.int x0), .val (.int xpa), .val (.int xpb), .val (.int xpc), .val (.int xr1), .val (.int xr2), .val (.int n1), .val (.int n2), .val (.int (0 : Int32)), .val (.int (1 : Int32)), .val (.int r1), .val (.int r2), .val (.int n1), .val (.int ia), .val (.int ib), .val (.int ic), .val (.ref b1), .val (.int (own_get (1 : Int32) ((fun q => if q = j then own_enc 1 r2 else if q = i then own_enc 1 r1 else 0) k))), .val (.int (own_get (1 : Int32) ((fun q => if q = j then own_enc 1 r2 else if q = i then own_enc 1 r1 else 0) i)))] [(.int (own_get (1 : Int32) ((fun q => if q = j then own_enc 1 r2 else if q = i then own_enc 1 r1 else 0) i)))])) _
        refine XS.iload X69.here hx rfl (hb hby at_199) rfl ?_
        show Steps p.tables e below (T69.setTop (mkF m 201 #[.val (.int x0), .val (.int xpa), .val (.int xpb), .val (.int xpc), .val (.int xr1), .val (.int xr2), .val (.int n1), .val (.int n2), .val (.int (0 : Int32)), .val (.int (1 : Int32)), .val (.int r1), .val (.int r2), .val (.int n1), .val (.int ia), .val (.int ib), .val (.int ic), .val (.ref b1), .val (.int (own_get (1 : Int32) ((fun q => if q = j then own_enc 1 r2 else if q = i then own_enc 1 r1 else 0) k))), .val (.int (own_get (1 : Int32) ((fun q => if q = j then own_enc 1 r2 else if q = i then own_enc 1 r1 else 0) i)))] [(.int ia), (.int (own_get (1 : Int32) ((fun q => if q = j then own_enc 1 r2 else if q = i then own_enc 1 r1 else 0) i)))])) _
        refine XS.iload X69.here hx rfl (hb hby at_201) rfl ?_
        show Steps p.tables e below (T69.setTop (mkF m 203 #[.val (.int x0), .val (.int xpa), .val (.int xpb), .val (.int xpc), .val (.int xr1), .val (.int xr2), .val (.int n1), .val (.int n2), .val (.int (0 : Int32)), .val (.int (1 : Int32)), .val (.int r1), .val (.int r2), .val (.int n1), .val (.int ia), .val (.int ib), .val (.int ic), .val (.ref b1), .val (.int (own_get (1 : Int32) ((fun q => if q = j then own_enc 1 r2 else if q = i then own_enc 1 r1 else 0) k))), .val (.int (own_get (1 : Int32) ((fun q => if q = j then own_enc 1 r2 else if q = i then own_enc 1 r1 else 0) i)))] [(.int ia), (.int ia), (.int (own_get (1 : Int32) ((fun q => if q = j then own_enc 1 r2 else if q = i then own_enc 1 r1 else 0) i)))])) _
        refine XS.iload X69.here hx rfl (hb hby at_203) rfl ?_
        show Steps p.tables e below (T69.setTop (mkF m 205 #[.val (.int x0), .val (.int xpa), .val (.int xpb), .val (.int xpc), .val (.int xr1), .val (.int xr2), .val (.int n1), .val (.int n2), .val (.int (0 : Int32)), .val (.int (1 : Int32)), .val (.int r1), .val (.int r2), .val (.int n1), .val (.int ia), .val (.int ib), .val (.int ic), .val (.ref b1), .val (.int (own_get (1 : Int32) ((fun q => if q = j then own_enc 1 r2 else if q = i then own_enc 1 r1 else 0) k))), .val (.int (own_get (1 : Int32) ((fun q => if q = j then own_enc 1 r2 else if q = i then own_enc 1 r1 else 0) i)))] [(.int ib), (.int ia), (.int ia), (.int (own_get (1 : Int32) ((fun q => if q = j then own_enc 1 r2 else if q = i then own_enc 1 r1 else 0) i)))])) _
        refine XS.iload X69.here hx rfl (hb hby at_205) rfl ?_
        show Steps p.tables e below (T69.setTop (mkF m 207 #[.val (.int x0), .val (.int xpa), .val (.int xpb), .val (.int xpc), .val (.int xr1), .val (.int xr2), .val (.int n1), .val (.int n2), .val (.int (0 : Int32)), .val (.int (1 : Int32)), .val (.int r1), .val (.int r2), .val (.int n1), .val (.int ia), .val (.int ib), .val (.int ic), .val (.ref b1), .val (.int (own_get (1 : Int32) ((fun q => if q = j then own_enc 1 r2 else if q = i then own_enc 1 r1 else 0) k))), .val (.int (own_get (1 : Int32) ((fun q => if q = j then own_enc 1 r2 else if q = i then own_enc 1 r1 else 0) i)))] [(.int (0 : Int32)), (.int ib), (.int ia), (.int ia), (.int (own_get (1 : Int32) ((fun q => if q = j then own_enc 1 r2 else if q = i then own_enc 1 r1 else 0) i)))])) _
        refine XS.iload X69.here hx rfl (hb hby at_207) rfl ?_
        show Steps p.tables e below (T69.setTop (mkF m 209 #[.val (.int x0), .val (.int xpa), .val (.int xpb), .val (.int xpc), .val (.int xr1), .val (.int xr2), .val (.int n1), .val (.int n2), .val (.int (0 : Int32)), .val (.int (1 : Int32)), .val (.int r1), .val (.int r2), .val (.int n1), .val (.int ia), .val (.int ib), .val (.int ic), .val (.ref b1), .val (.int (own_get (1 : Int32) ((fun q => if q = j then own_enc 1 r2 else if q = i then own_enc 1 r1 else 0) k))), .val (.int (own_get (1 : Int32) ((fun q => if q = j then own_enc 1 r2 else if q = i then own_enc 1 r1 else 0) i)))] [(.int (1 : Int32)), (.int (0 : Int32)), (.int ib), (.int ia), (.int ia), (.int (own_get (1 : Int32) ((fun q => if q = j then own_enc 1 r2 else if q = i then own_enc 1 r1 else 0) i)))])) _
        refine XS.iload X69.here hx rfl (hb hby at_209) rfl ?_
        show Steps p.tables e below (T69.setTop (mkF m 211 #[.val (.int x0), .val (.int xpa), .val (.int xpb), .val (.int xpc), .val (.int xr1), .val (.int xr2), .val (.int n1), .val (.int n2), .val (.int (0 : Int32)), .val (.int (1 : Int32)), .val (.int r1), .val (.int r2), .val (.int n1), .val (.int ia), .val (.int ib), .val (.int ic), .val (.ref b1), .val (.int (own_get (1 : Int32) ((fun q => if q = j then own_enc 1 r2 else if q = i then own_enc 1 r1 else 0) k))), .val (.int (own_get (1 : Int32) ((fun q => if q = j then own_enc 1 r2 else if q = i then own_enc 1 r1 else 0) i)))] [(.int r1), (.int (1 : Int32)), (.int (0 : Int32)), (.int ib), (.int ia), (.int ia), (.int (own_get (1 : Int32) ((fun q => if q = j then own_enc 1 r2 else if q = i then own_enc 1 r1 else 0) i)))])) _
        refine XS.iload X69.here hx rfl (hb hby at_211) rfl ?_
        show Steps p.tables e below (T69.setTop (mkF m 213 #[.val (.int x0), .val (.int xpa), .val (.int xpb), .val (.int xpc), .val (.int xr1), .val (.int xr2), .val (.int n1), .val (.int n2), .val (.int (0 : Int32)), .val (.int (1 : Int32)), .val (.int r1), .val (.int r2), .val (.int n1), .val (.int ia), .val (.int ib), .val (.int ic), .val (.ref b1), .val (.int (own_get (1 : Int32) ((fun q => if q = j then own_enc 1 r2 else if q = i then own_enc 1 r1 else 0) k))), .val (.int (own_get (1 : Int32) ((fun q => if q = j then own_enc 1 r2 else if q = i then own_enc 1 r1 else 0) i)))] [(.int r2), (.int r1), (.int (1 : Int32)), (.int (0 : Int32)), (.int ib), (.int ia), (.int ia), (.int (own_get (1 : Int32) ((fun q => if q = j then own_enc 1 r2 else if q = i then own_enc 1 r1 else 0) i)))])) _
        exact kt)
      obtain ⟨_, _, ⟨T73, L73, k73, n73⟩, -, X73, ⟨Lc73, hQ73, l73, y73, z73⟩, ls73⟩ := Jvm.LawKit.callS X69 hx (y := (⟨"com/example/saturation/saturation/WalkMemoGetPinLaw", "expect", "(IIIZZII)I"⟩ : MethodName)) hown (mvT hZ (hw _ (List.mem_of_getElem? (i := 45) rfl))) (mvT hZ (hw _ (List.mem_of_getElem? (i := 46) rfl))) (mvT hZ (hw _ (List.mem_of_getElem? (i := 47) rfl))) (mvT hZ (hw _ (List.mem_of_getElem? (i := 48) rfl))) (by decide) (backOf (W := 1) (rm_exp l Z a0 hw [] ia ia ib ((0 : Int32)) ((1 : Int32)) r1 r2 T59.heap n0 Zq59) hZ (hw _ (List.mem_of_getElem? (i := 48) rfl)) (hw _ (List.mem_of_getElem? (i := 47) rfl)) (by decide) (by decide)) (g := (mkF m 213 #[.val (.int x0), .val (.int xpa), .val (.int xpb), .val (.int xpc), .val (.int xr1), .val (.int xr2), .val (.int n1), .val (.int n2), .val (.int (0 : Int32)), .val (.int (1 : Int32)), .val (.int r1), .val (.int r2), .val (.int n1), .val (.int ia), .val (.int ib), .val (.int ic), .val (.ref b1), .val (.int (own_get (1 : Int32) ((fun q => if q = j then own_enc 1 r2 else if q = i then own_enc 1 r1 else 0) k))), .val (.int (own_get (1 : Int32) ((fun q => if q = j then own_enc 1 r2 else if q = i then own_enc 1 r1 else 0) i)))] [(.int r2), (.int r1), (.int (1 : Int32)), (.int (0 : Int32)), (.int ib), (.int ia), (.int ia), (.int (own_get (1 : Int32) ((fun q => if q = j then own_enc 1 r2 else if q = i then own_enc 1 r1 else 0) i)))])) rfl (by rw [hml]; rfl) (argsL := [(.int ia), (.int ia), (.int ib), (.int (0 : Int32)), (.int (1 : Int32)), (.int r1), (.int r2)]) (rest := [(.int (own_get (1 : Int32) ((fun q => if q = j then own_enc 1 r2 else if q = i then own_enc 1 r1 else 0) i)))]) (lenOf own_pd6 rfl) rfl (by show 2 * 0 + _ ≤ _; exact Nat.le_of_eq rfl) (hb hby at_213) (fun _ _ => ⟨rfl, eq69, (by decide : 3 + 0 ≤ _), (by decide : 18 + 0 ≤ _)⟩)
      dsimp only [Pt.U, Pt.locs, Pt.cells, Pt.slots] at X73 l73 y73 z73 ls73 hQ73
      subst l73 y73 z73
      obtain ⟨rfl, Nq73, eq73⟩ := hQ73
      have N73 := Fr.app N69 Nq73
      have st74 : own_Go p e below (T73.setTop (mkF m 216 #[.val (.int x0), .val (.int xpa), .val (.int xpb), .val (.int xpc), .val (.int xr1), .val (.int xr2), .val (.int n1), .val (.int n2), .val (.int (0 : Int32)), .val (.int (1 : Int32)), .val (.int r1), .val (.int r2), .val (.int n1), .val (.int ia), .val (.int ib), .val (.int ic), .val (.ref b1), .val (.int (own_get (1 : Int32) ((fun q => if q = j then own_enc 1 r2 else if q = i then own_enc 1 r1 else 0) k))), .val (.int (own_get (1 : Int32) ((fun q => if q = j then own_enc 1 r2 else if q = i then own_enc 1 r1 else 0) i)))] [(.int (own_exp ia ia ib (0 : Int32) (1 : Int32) r1 r2)), (.int (own_get (1 : Int32) ((fun q => if q = j then own_enc 1 r2 else if q = i then own_enc 1 r1 else 0) i)))])) (s₁.setTop (entryFrame m #[(.int x0), (.int xpa), (.int xpb), (.int xpc), (.int xr1), (.int xr2)] maxLocals)) := fun t kt => st72 t (ls73 t kt)
      have hc75 : (own_get (1 : Int32) ((fun q => if q = j then own_enc 1 r2 else if q = i then own_enc 1 r1 else 0) i)) = (own_exp ia ia ib (0 : Int32) (1 : Int32) r1 r2) := own_L01 (own_ix i_ia.1 i_ia.1 hk_ia hk_ia) (own_ix i_ia.1 i_ib.1 hk_ia hk_ib) p1 p2
      have st76 : own_Go p e below (T73.setTop (mkF m 224 #[.val (.int x0), .val (.int xpa), .val (.int xpb), .val (.int xpc), .val (.int xr1), .val (.int xr2), .val (.int n1), .val (.int n2), .val (.int (0 : Int32)), .val (.int (1 : Int32)), .val (.int r1), .val (.int r2), .val (.int n1), .val (.int ia), .val (.int ib), .val (.int ic), .val (.ref b1), .val (.int (own_get (1 : Int32) ((fun q => if q = j then own_enc 1 r2 else if q = i then own_enc 1 r1 else 0) k))), .val (.int (own_get (1 : Int32) ((fun q => if q = j then own_enc 1 r2 else if q = i then own_enc 1 r1 else 0) i)))] [(.int (1 : Int32))])) (s₁.setTop (entryFrame m #[(.int x0), (.int xpa), (.int xpb), (.int xpc), (.int xr1), (.int xr2)] maxLocals)) := fun t kt => st74 t (by
        show Steps p.tables e below (T73.setTop (mkF m 216 #[.val (.int x0), .val (.int xpa), .val (.int xpb), .val (.int xpc), .val (.int xr1), .val (.int xr2), .val (.int n1), .val (.int n2), .val (.int (0 : Int32)), .val (.int (1 : Int32)), .val (.int r1), .val (.int r2), .val (.int n1), .val (.int ia), .val (.int ib), .val (.int ic), .val (.ref b1), .val (.int (own_get (1 : Int32) ((fun q => if q = j then own_enc 1 r2 else if q = i then own_enc 1 r1 else 0) k))), .val (.int (own_get (1 : Int32) ((fun q => if q = j then own_enc 1 r2 else if q = i then own_enc 1 r1 else 0) i)))] [(.int (own_exp ia ia ib (0 : Int32) (1 : Int32) r1 r2)), (.int (own_get (1 : Int32) ((fun q => if q = j then own_enc 1 r2 else if q = i then own_enc 1 r1 else 0) i)))])) _
        refine XS.icmpNo X73.here hx rfl (hb hby at_216) rfl (teq hc75).2 ?_
        show Steps p.tables e below (T73.setTop (mkF m 219 #[.val (.int x0), .val (.int xpa), .val (.int xpb), .val (.int xpc), .val (.int xr1), .val (.int xr2), .val (.int n1), .val (.int n2), .val (.int (0 : Int32)), .val (.int (1 : Int32)), .val (.int r1), .val (.int r2), .val (.int n1), .val (.int ia), .val (.int ib), .val (.int ic), .val (.ref b1), .val (.int (own_get (1 : Int32) ((fun q => if q = j then own_enc 1 r2 else if q = i then own_enc 1 r1 else 0) k))), .val (.int (own_get (1 : Int32) ((fun q => if q = j then own_enc 1 r2 else if q = i then own_enc 1 r1 else 0) i)))] [])) _
        refine XS.iconst X73.here hx rfl (hb hby at_219) ?_
        show Steps p.tables e below (T73.setTop (mkF m 220 #[.val (.int x0), .val (.int xpa), .val (.int xpb), .val (.int xpc), .val (.int xr1), .val (.int xr2), .val (.int n1), .val (.int n2), .val (.int (0 : Int32)), .val (.int (1 : Int32)), .val (.int r1), .val (.int r2), .val (.int n1), .val (.int ia), .val (.int ib), .val (.int ic), .val (.ref b1), .val (.int (own_get (1 : Int32) ((fun q => if q = j then own_enc 1 r2 else if q = i then own_enc 1 r1 else 0) k))), .val (.int (own_get (1 : Int32) ((fun q => if q = j then own_enc 1 r2 else if q = i then own_enc 1 r1 else 0) i)))] [(.int (1 : Int32))])) _
        refine XS.goto X73.here hx rfl (pc0 := 220) (pc' := 224) rfl (hb hby at_220) (by decide) (by decide) ?_
        show Steps p.tables e below (T73.setTop (mkF m 224 #[.val (.int x0), .val (.int xpa), .val (.int xpb), .val (.int xpc), .val (.int xr1), .val (.int xr2), .val (.int n1), .val (.int n2), .val (.int (0 : Int32)), .val (.int (1 : Int32)), .val (.int r1), .val (.int r2), .val (.int n1), .val (.int ia), .val (.int ib), .val (.int ic), .val (.ref b1), .val (.int (own_get (1 : Int32) ((fun q => if q = j then own_enc 1 r2 else if q = i then own_enc 1 r1 else 0) k))), .val (.int (own_get (1 : Int32) ((fun q => if q = j then own_enc 1 r2 else if q = i then own_enc 1 r1 else 0) i)))] [(.int (1 : Int32))])) _
        exact kt)
      obtain ⟨fs, hr, hrun, hended, hW, hsame⟩ := X73.leave (v := (some (.int (1 : Int32)))) (fun h => by rw [Bd.returns] at h; cases h)
      refine ⟨_, _, st76 _ ?_, hrun, hended, _, _, rfl, ?_, ⟨_, rfl⟩, hW, hsame.mono (by decide) (by decide)⟩
      · exact retN X73 hx (t := .boolean) Bd.returns (by simp) (hb hby at_224) hr
      · show Q_rm_law Z x0 xpa xpb xpc xr1 xr2 h0 n0 _ T73.heap _
        rw [eq73]
        exact ⟨rfl, N73⟩
  · have st77 : own_Go p e below (s₁.setTop (mkF m 41 #[.val (.int x0), .val (.int xpa), .val (.int xpb), .val (.int xpc), .val (.int xr1), .val (.int xr2), .val (.int n1), .val (.int n2), .val (.int (1 : Int32)), .unset, .unset, .unset, .unset, .unset, .unset, .unset, .unset, .unset, .unset] [(.int (((x0.toUInt32 >>> ((7 : Int32) &&& 31).toUInt32).toInt32) &&& (1 : Int32)))])) (s₁.setTop (entryFrame m #[(.int x0), (.int xpa), (.int xpb), (.int xpc), (.int xr1), (.int xr2)] maxLocals)) := fun t kt => st1 t (by
      show Steps p.tables e below (s₁.setTop (mkF m 25 #[.val (.int x0), .val (.int xpa), .val (.int xpb), .val (.int xpc), .val (.int xr1), .val (.int xr2), .val (.int n1), .val (.int n2), .unset, .unset, .unset, .unset, .unset, .unset, .unset, .unset, .unset, .unset, .unset] [(.int (((x0.toUInt32 >>> ((6 : Int32) &&& 31).toUInt32).toInt32) &&& (1 : Int32)))])) _
      refine XS.ifNo X0.here hx rfl (hb hby at_25) rfl ((if0 _ _).trans (feq q1).1) ?_
      show Steps p.tables e below (s₁.setTop (mkF m 28 #[.val (.int x0), .val (.int xpa), .val (.int xpb), .val (.int xpc), .val (.int xr1), .val (.int xr2), .val (.int n1), .val (.int n2), .unset, .unset, .unset, .unset, .unset, .unset, .unset, .unset, .unset, .unset, .unset] [])) _
      refine XS.iconst X0.here hx rfl (hb hby at_28) ?_
      show Steps p.tables e below (s₁.setTop (mkF m 29 #[.val (.int x0), .val (.int xpa), .val (.int xpb), .val (.int xpc), .val (.int xr1), .val (.int xr2), .val (.int n1), .val (.int n2), .unset, .unset, .unset, .unset, .unset, .unset, .unset, .unset, .unset, .unset, .unset] [(.int (1 : Int32))])) _
      refine XS.goto X0.here hx rfl (pc0 := 29) (pc' := 33) rfl (hb hby at_29) (by decide) (by decide) ?_
      show Steps p.tables e below (s₁.setTop (mkF m 33 #[.val (.int x0), .val (.int xpa), .val (.int xpb), .val (.int xpc), .val (.int xr1), .val (.int xr2), .val (.int n1), .val (.int n2), .unset, .unset, .unset, .unset, .unset, .unset, .unset, .unset, .unset, .unset, .unset] [(.int (1 : Int32))])) _
      refine XS.istore X0.here hx rfl (hb hby at_33) rfl (l' := #[.val (.int x0), .val (.int xpa), .val (.int xpb), .val (.int xpc), .val (.int xr1), .val (.int xr2), .val (.int n1), .val (.int n2), .val (.int (1 : Int32)), .unset, .unset, .unset, .unset, .unset, .unset, .unset, .unset, .unset, .unset]) rfl ?_
      show Steps p.tables e below (s₁.setTop (mkF m 35 #[.val (.int x0), .val (.int xpa), .val (.int xpb), .val (.int xpc), .val (.int xr1), .val (.int xr2), .val (.int n1), .val (.int n2), .val (.int (1 : Int32)), .unset, .unset, .unset, .unset, .unset, .unset, .unset, .unset, .unset, .unset] [])) _
      refine XS.iloadN X0.here hx rfl (hb hby at_35) rfl ?_
      show Steps p.tables e below (s₁.setTop (mkF m 36 #[.val (.int x0), .val (.int xpa), .val (.int xpb), .val (.int xpc), .val (.int xr1), .val (.int xr2), .val (.int n1), .val (.int n2), .val (.int (1 : Int32)), .unset, .unset, .unset, .unset, .unset, .unset, .unset, .unset, .unset, .unset] [(.int x0)])) _
      refine XS.bipush X0.here hx rfl (hb hby at_36) ?_
      show Steps p.tables e below (s₁.setTop (mkF m 38 #[.val (.int x0), .val (.int xpa), .val (.int xpb), .val (.int xpc), .val (.int xr1), .val (.int xr2), .val (.int n1), .val (.int n2), .val (.int (1 : Int32)), .unset, .unset, .unset, .unset, .unset, .unset, .unset, .unset, .unset, .unset] [(.int (7 : Int32)), (.int x0)])) _
      refine XS.iushr X0.here hx rfl (hb hby at_38) rfl ?_
      show Steps p.tables e below (s₁.setTop (mkF m 39 #[.val (.int x0), .val (.int xpa), .val (.int xpb), .val (.int xpc), .val (.int xr1), .val (.int xr2), .val (.int n1), .val (.int n2), .val (.int (1 : Int32)), .unset, .unset, .unset, .unset, .unset, .unset, .unset, .unset, .unset, .unset] [(.int ((x0.toUInt32 >>> ((7 : Int32) &&& 31).toUInt32).toInt32))])) _
      refine XS.iconst X0.here hx rfl (hb hby at_39) ?_
      show Steps p.tables e below (s₁.setTop (mkF m 40 #[.val (.int x0), .val (.int xpa), .val (.int xpb), .val (.int xpc), .val (.int xr1), .val (.int xr2), .val (.int n1), .val (.int n2), .val (.int (1 : Int32)), .unset, .unset, .unset, .unset, .unset, .unset, .unset, .unset, .unset, .unset] [(.int (1 : Int32)), (.int ((x0.toUInt32 >>> ((7 : Int32) &&& 31).toUInt32).toInt32))])) _
      refine XS.iand X0.here hx rfl (hb hby at_40) rfl ?_
      show Steps p.tables e below (s₁.setTop (mkF m 41 #[.val (.int x0), .val (.int xpa), .val (.int xpb), .val (.int xpc), .val (.int xr1), .val (.int xr2), .val (.int n1), .val (.int n2), .val (.int (1 : Int32)), .unset, .unset, .unset, .unset, .unset, .unset, .unset, .unset, .unset, .unset] [(.int (((x0.toUInt32 >>> ((7 : Int32) &&& 31).toUInt32).toInt32) &&& (1 : Int32)))])) _
      exact kt)
    by_cases q2 : (((x0.toUInt32 >>> ((7 : Int32) &&& 31).toUInt32).toInt32) &&& (1 : Int32)) = (0 : Int32)
    · obtain ⟨r1, h_r1⟩ : ∃ z : Int32, z = (xr1 &&& (2147483647 : Int32)) := ⟨_, rfl⟩
      obtain ⟨r2, h_r2⟩ : ∃ z : Int32, z = (xr2 &&& (2147483647 : Int32)) := ⟨_, rfl⟩
      have hc78 : ¬ ((1 : Int32) = (0 : Int32)) := by decide
      obtain ⟨ia, h_ia⟩ : ∃ z : Int32, z = ((xpa &&& (2147483647 : Int32)) % n1) := ⟨_, rfl⟩
      obtain ⟨ib, h_ib⟩ : ∃ z : Int32, z = ((xpb &&& (2147483647 : Int32)) % n2) := ⟨_, rfl⟩
      obtain ⟨ic, h_ic⟩ : ∃ z : Int32, z = ((xpc &&& (2147483647 : Int32)) % n2) := ⟨_, rfl⟩
      have i_ia := own_idx xpa n1 (by omega)
      rw [← h_ia, hN1] at i_ia
      have i_ib := own_idx xpb n2 (by omega)
      rw [← h_ib, hN2] at i_ib
      have i_ic := own_idx xpc n2 (by omega)
      rw [← h_ic, hN2] at i_ic
      have p1 := own_pos xr1
      rw [← h_r1] at p1
      have p2 := own_pos xr2
      rw [← h_r2] at p2
      obtain ⟨i, hk_ia⟩ : ∃ z, ia.toNatClampNeg = z := ⟨_, rfl⟩
      rw [hk_ia] at i_ia
      obtain ⟨j, hk_ib⟩ : ∃ z, ib.toNatClampNeg = z := ⟨_, rfl⟩
      rw [hk_ib] at i_ib
      obtain ⟨k, hk_ic⟩ : ∃ z, ic.toNatClampNeg = z := ⟨_, rfl⟩
      rw [hk_ic] at i_ic
      have st79 : own_Go p e below (s₁.setTop (mkF m 106 #[.val (.int x0), .val (.int xpa), .val (.int xpb), .val (.int xpc), .val (.int xr1), .val (.int xr2), .val (.int n1), .val (.int n2), .val (.int (1 : Int32)), .val (.int (0 : Int32)), .val (.int r1), .val (.int r2), .val (.int n2), .val (.int ia), .val (.int ib), .val (.int ic), .unset, .unset, .unset] [])) (s₁.setTop (entryFrame m #[(.int x0), (.int xpa), (.int xpb), (.int xpc), (.int xr1), (.int xr2)] maxLocals)) := fun t kt => st77 t (by
        show Steps p.tables e below (s₁.setTop (mkF m 41 #[.val (.int x0), .val (.int xpa), .val (.int xpb), .val (.int xpc), .val (.int xr1), .val (.int xr2), .val (.int n1), .val (.int n2), .val (.int (1 : Int32)), .unset, .unset, .unset, .unset, .unset, .unset, .unset, .unset, .unset, .unset] [(.int (((x0.toUInt32 >>> ((7 : Int32) &&& 31).toUInt32).toInt32) &&& (1 : Int32)))])) _
        refine XS.ifYes X0.here hx rfl (pc0 := 41) (pc' := 48) rfl (hb hby at_41) rfl ((if0 _ _).trans (teq q2).1) (by decide) (by decide) ?_
        show Steps p.tables e below (s₁.setTop (mkF m 48 #[.val (.int x0), .val (.int xpa), .val (.int xpb), .val (.int xpc), .val (.int xr1), .val (.int xr2), .val (.int n1), .val (.int n2), .val (.int (1 : Int32)), .unset, .unset, .unset, .unset, .unset, .unset, .unset, .unset, .unset, .unset] [])) _
        refine XS.iconst X0.here hx rfl (hb hby at_48) ?_
        show Steps p.tables e below (s₁.setTop (mkF m 49 #[.val (.int x0), .val (.int xpa), .val (.int xpb), .val (.int xpc), .val (.int xr1), .val (.int xr2), .val (.int n1), .val (.int n2), .val (.int (1 : Int32)), .unset, .unset, .unset, .unset, .unset, .unset, .unset, .unset, .unset, .unset] [(.int (0 : Int32))])) _
        refine XS.istore X0.here hx rfl (hb hby at_49) rfl (l' := #[.val (.int x0), .val (.int xpa), .val (.int xpb), .val (.int xpc), .val (.int xr1), .val (.int xr2), .val (.int n1), .val (.int n2), .val (.int (1 : Int32)), .val (.int (0 : Int32)), .unset, .unset, .unset, .unset, .unset, .unset, .unset, .unset, .unset]) rfl ?_
        show Steps p.tables e below (s₁.setTop (mkF m 51 #[.val (.int x0), .val (.int xpa), .val (.int xpb), .val (.int xpc), .val (.int xr1), .val (.int xr2), .val (.int n1), .val (.int n2), .val (.int (1 : Int32)), .val (.int (0 : Int32)), .unset, .unset, .unset, .unset, .unset, .unset, .unset, .unset, .unset] [])) _
        refine XS.iload X0.here hx rfl (hb hby at_51) rfl ?_
        show Steps p.tables e below (s₁.setTop (mkF m 53 #[.val (.int x0), .val (.int xpa), .val (.int xpb), .val (.int xpc), .val (.int xr1), .val (.int xr2), .val (.int n1), .val (.int n2), .val (.int (1 : Int32)), .val (.int (0 : Int32)), .unset, .unset, .unset, .unset, .unset, .unset, .unset, .unset, .unset] [(.int xr1)])) _
        refine X0.ldcInt hx hown (mvT hZ (hw _ (List.mem_of_getElem? (i := 0) rfl))) (g := (mkF m 53 #[.val (.int x0), .val (.int xpa), .val (.int xpb), .val (.int xpc), .val (.int xr1), .val (.int xr2), .val (.int n1), .val (.int n2), .val (.int (1 : Int32)), .val (.int (0 : Int32)), .unset, .unset, .unset, .unset, .unset, .unset, .unset, .unset, .unset] [(.int xr1)])) rfl (hb hby at_53) _ ?_
        show Steps p.tables e below (s₁.setTop (mkF m 55 #[.val (.int x0), .val (.int xpa), .val (.int xpb), .val (.int xpc), .val (.int xr1), .val (.int xr2), .val (.int n1), .val (.int n2), .val (.int (1 : Int32)), .val (.int (0 : Int32)), .unset, .unset, .unset, .unset, .unset, .unset, .unset, .unset, .unset] [(.int (2147483647 : Int32)), (.int xr1)])) _
        refine XS.iand X0.here hx rfl (hb hby at_55) rfl ?_
        show Steps p.tables e below (s₁.setTop (mkF m 56 #[.val (.int x0), .val (.int xpa), .val (.int xpb), .val (.int xpc), .val (.int xr1), .val (.int xr2), .val (.int n1), .val (.int n2), .val (.int (1 : Int32)), .val (.int (0 : Int32)), .unset, .unset, .unset, .unset, .unset, .unset, .unset, .unset, .unset] [(.int (xr1 &&& (2147483647 : Int32)))])) _
        rw [← h_r1]
        show Steps p.tables e below (s₁.setTop (mkF m 56 #[.val (.int x0), .val (.int xpa), .val (.int xpb), .val (.int xpc), .val (.int xr1), .val (.int xr2), .val (.int n1), .val (.int n2), .val (.int (1 : Int32)), .val (.int (0 : Int32)), .unset, .unset, .unset, .unset, .unset, .unset, .unset, .unset, .unset] [(.int r1)])) _
        refine XS.istore X0.here hx rfl (hb hby at_56) rfl (l' := #[.val (.int x0), .val (.int xpa), .val (.int xpb), .val (.int xpc), .val (.int xr1), .val (.int xr2), .val (.int n1), .val (.int n2), .val (.int (1 : Int32)), .val (.int (0 : Int32)), .val (.int r1), .unset, .unset, .unset, .unset, .unset, .unset, .unset, .unset]) rfl ?_
        show Steps p.tables e below (s₁.setTop (mkF m 58 #[.val (.int x0), .val (.int xpa), .val (.int xpb), .val (.int xpc), .val (.int xr1), .val (.int xr2), .val (.int n1), .val (.int n2), .val (.int (1 : Int32)), .val (.int (0 : Int32)), .val (.int r1), .unset, .unset, .unset, .unset, .unset, .unset, .unset, .unset] [])) _
        refine XS.iload X0.here hx rfl (hb hby at_58) rfl ?_
        show Steps p.tables e below (s₁.setTop (mkF m 60 #[.val (.int x0), .val (.int xpa), .val (.int xpb), .val (.int xpc), .val (.int xr1), .val (.int xr2), .val (.int n1), .val (.int n2), .val (.int (1 : Int32)), .val (.int (0 : Int32)), .val (.int r1), .unset, .unset, .unset, .unset, .unset, .unset, .unset, .unset] [(.int xr2)])) _
        refine X0.ldcInt hx hown (mvT hZ (hw _ (List.mem_of_getElem? (i := 0) rfl))) (g := (mkF m 60 #[.val (.int x0), .val (.int xpa), .val (.int xpb), .val (.int xpc), .val (.int xr1), .val (.int xr2), .val (.int n1), .val (.int n2), .val (.int (1 : Int32)), .val (.int (0 : Int32)), .val (.int r1), .unset, .unset, .unset, .unset, .unset, .unset, .unset, .unset] [(.int xr2)])) rfl (hb hby at_60) _ ?_
        show Steps p.tables e below (s₁.setTop (mkF m 62 #[.val (.int x0), .val (.int xpa), .val (.int xpb), .val (.int xpc), .val (.int xr1), .val (.int xr2), .val (.int n1), .val (.int n2), .val (.int (1 : Int32)), .val (.int (0 : Int32)), .val (.int r1), .unset, .unset, .unset, .unset, .unset, .unset, .unset, .unset] [(.int (2147483647 : Int32)), (.int xr2)])) _
        refine XS.iand X0.here hx rfl (hb hby at_62) rfl ?_
        show Steps p.tables e below (s₁.setTop (mkF m 63 #[.val (.int x0), .val (.int xpa), .val (.int xpb), .val (.int xpc), .val (.int xr1), .val (.int xr2), .val (.int n1), .val (.int n2), .val (.int (1 : Int32)), .val (.int (0 : Int32)), .val (.int r1), .unset, .unset, .unset, .unset, .unset, .unset, .unset, .unset] [(.int (xr2 &&& (2147483647 : Int32)))])) _
        rw [← h_r2]
        show Steps p.tables e below (s₁.setTop (mkF m 63 #[.val (.int x0), .val (.int xpa), .val (.int xpb), .val (.int xpc), .val (.int xr1), .val (.int xr2), .val (.int n1), .val (.int n2), .val (.int (1 : Int32)), .val (.int (0 : Int32)), .val (.int r1), .unset, .unset, .unset, .unset, .unset, .unset, .unset, .unset] [(.int r2)])) _
        refine XS.istore X0.here hx rfl (hb hby at_63) rfl (l' := #[.val (.int x0), .val (.int xpa), .val (.int xpb), .val (.int xpc), .val (.int xr1), .val (.int xr2), .val (.int n1), .val (.int n2), .val (.int (1 : Int32)), .val (.int (0 : Int32)), .val (.int r1), .val (.int r2), .unset, .unset, .unset, .unset, .unset, .unset, .unset]) rfl ?_
        show Steps p.tables e below (s₁.setTop (mkF m 65 #[.val (.int x0), .val (.int xpa), .val (.int xpb), .val (.int xpc), .val (.int xr1), .val (.int xr2), .val (.int n1), .val (.int n2), .val (.int (1 : Int32)), .val (.int (0 : Int32)), .val (.int r1), .val (.int r2), .unset, .unset, .unset, .unset, .unset, .unset, .unset] [])) _
        refine XS.iload X0.here hx rfl (hb hby at_65) rfl ?_
        show Steps p.tables e below (s₁.setTop (mkF m 67 #[.val (.int x0), .val (.int xpa), .val (.int xpb), .val (.int xpc), .val (.int xr1), .val (.int xr2), .val (.int n1), .val (.int n2), .val (.int (1 : Int32)), .val (.int (0 : Int32)), .val (.int r1), .val (.int r2), .unset, .unset, .unset, .unset, .unset, .unset, .unset] [(.int (1 : Int32))])) _
        refine XS.ifNo X0.here hx rfl (hb hby at_67) rfl ((if0 _ _).trans (feq hc78).1) ?_
        show Steps p.tables e below (s₁.setTop (mkF m 70 #[.val (.int x0), .val (.int xpa), .val (.int xpb), .val (.int xpc), .val (.int xr1), .val (.int xr2), .val (.int n1), .val (.int n2), .val (.int (1 : Int32)), .val (.int (0 : Int32)), .val (.int r1), .val (.int r2), .unset, .unset, .unset, .unset, .unset, .unset, .unset] [])) _
        refine XS.iload X0.here hx rfl (hb hby at_70) rfl ?_
        show Steps p.tables e below (s₁.setTop (mkF m 72 #[.val (.int x0), .val (.int xpa), .val (.int xpb), .val (.int xpc), .val (.int xr1), .val (.int xr2), .val (.int n1), .val (.int n2), .val (.int (1 : Int32)), .val (.int (0 : Int32)), .val (.int r1), .val (.int r2), .unset, .unset, .unset, .unset, .unset, .unset, .unset] [(.int n2)])) _
        refine XS.goto X0.here hx rfl (pc0 := 72) (pc' := 77) rfl (hb hby at_72) (by decide) (by decide) ?_
        show Steps p.tables e below (s₁.setTop (mkF m 77 #[.val (.int x0), .val (.int xpa), .val (.int xpb), .val (.int xpc), .val (.int xr1), .val (.int xr2), .val (.int n1), .val (.int n2), .val (.int (1 : Int32)), .val (.int (0 : Int32)), .val (.int r1), .val (.int r2), .unset, .unset, .unset, .unset, .unset, .unset, .unset] [(.int n2)])) _
        refine XS.istore X0.here hx rfl (hb hby at_77) rfl (l' := #[.val (.int x0), .val (.int xpa), .val (.int xpb), .val (.int xpc), .val (.int xr1), .val (.int xr2), .val (.int n1), .val (.int n2), .val (.int (1 : Int32)), .val (.int (0 : Int32)), .val (.int r1), .val (.int r2), .val (.int n2), .unset, .unset, .unset, .unset, .unset, .unset]) rfl ?_
        show Steps p.tables e below (s₁.setTop (mkF m 79 #[.val (.int x0), .val (.int xpa), .val (.int xpb), .val (.int xpc), .val (.int xr1), .val (.int xr2), .val (.int n1), .val (.int n2), .val (.int (1 : Int32)), .val (.int (0 : Int32)), .val (.int r1), .val (.int r2), .val (.int n2), .unset, .unset, .unset, .unset, .unset, .unset] [])) _
        refine XS.iloadN X0.here hx rfl (hb hby at_79) rfl ?_
        show Steps p.tables e below (s₁.setTop (mkF m 80 #[.val (.int x0), .val (.int xpa), .val (.int xpb), .val (.int xpc), .val (.int xr1), .val (.int xr2), .val (.int n1), .val (.int n2), .val (.int (1 : Int32)), .val (.int (0 : Int32)), .val (.int r1), .val (.int r2), .val (.int n2), .unset, .unset, .unset, .unset, .unset, .unset] [(.int xpa)])) _
        refine X0.ldcInt hx hown (mvT hZ (hw _ (List.mem_of_getElem? (i := 0) rfl))) (g := (mkF m 80 #[.val (.int x0), .val (.int xpa), .val (.int xpb), .val (.int xpc), .val (.int xr1), .val (.int xr2), .val (.int n1), .val (.int n2), .val (.int (1 : Int32)), .val (.int (0 : Int32)), .val (.int r1), .val (.int r2), .val (.int n2), .unset, .unset, .unset, .unset, .unset, .unset] [(.int xpa)])) rfl (hb hby at_80) _ ?_
        show Steps p.tables e below (s₁.setTop (mkF m 82 #[.val (.int x0), .val (.int xpa), .val (.int xpb), .val (.int xpc), .val (.int xr1), .val (.int xr2), .val (.int n1), .val (.int n2), .val (.int (1 : Int32)), .val (.int (0 : Int32)), .val (.int r1), .val (.int r2), .val (.int n2), .unset, .unset, .unset, .unset, .unset, .unset] [(.int (2147483647 : Int32)), (.int xpa)])) _
        refine XS.iand X0.here hx rfl (hb hby at_82) rfl ?_
        show Steps p.tables e below (s₁.setTop (mkF m 83 #[.val (.int x0), .val (.int xpa), .val (.int xpb), .val (.int xpc), .val (.int xr1), .val (.int xr2), .val (.int n1), .val (.int n2), .val (.int (1 : Int32)), .val (.int (0 : Int32)), .val (.int r1), .val (.int r2), .val (.int n2), .unset, .unset, .unset, .unset, .unset, .unset] [(.int (xpa &&& (2147483647 : Int32)))])) _
        refine XS.iload X0.here hx rfl (hb hby at_83) rfl ?_
        show Steps p.tables e below (s₁.setTop (mkF m 85 #[.val (.int x0), .val (.int xpa), .val (.int xpb), .val (.int xpc), .val (.int xr1), .val (.int xr2), .val (.int n1), .val (.int n2), .val (.int (1 : Int32)), .val (.int (0 : Int32)), .val (.int r1), .val (.int r2), .val (.int n2), .unset, .unset, .unset, .unset, .unset, .unset] [(.int n1), (.int (xpa &&& (2147483647 : Int32)))])) _
        refine iremM X0 hx rfl (hb hby at_85) rfl hnz1 ?_
        show Steps p.tables e below (s₁.setTop (mkF m 86 #[.val (.int x0), .val (.int xpa), .val (.int xpb), .val (.int xpc), .val (.int xr1), .val (.int xr2), .val (.int n1), .val (.int n2), .val (.int (1 : Int32)), .val (.int (0 : Int32)), .val (.int r1), .val (.int r2), .val (.int n2), .unset, .unset, .unset, .unset, .unset, .unset] [(.int ((xpa &&& (2147483647 : Int32)) % n1))])) _
        rw [← h_ia]
        show Steps p.tables e below (s₁.setTop (mkF m 86 #[.val (.int x0), .val (.int xpa), .val (.int xpb), .val (.int xpc), .val (.int xr1), .val (.int xr2), .val (.int n1), .val (.int n2), .val (.int (1 : Int32)), .val (.int (0 : Int32)), .val (.int r1), .val (.int r2), .val (.int n2), .unset, .unset, .unset, .unset, .unset, .unset] [(.int ia)])) _
        refine XS.istore X0.here hx rfl (hb hby at_86) rfl (l' := #[.val (.int x0), .val (.int xpa), .val (.int xpb), .val (.int xpc), .val (.int xr1), .val (.int xr2), .val (.int n1), .val (.int n2), .val (.int (1 : Int32)), .val (.int (0 : Int32)), .val (.int r1), .val (.int r2), .val (.int n2), .val (.int ia), .unset, .unset, .unset, .unset, .unset]) rfl ?_
        show Steps p.tables e below (s₁.setTop (mkF m 88 #[.val (.int x0), .val (.int xpa), .val (.int xpb), .val (.int xpc), .val (.int xr1), .val (.int xr2), .val (.int n1), .val (.int n2), .val (.int (1 : Int32)), .val (.int (0 : Int32)), .val (.int r1), .val (.int r2), .val (.int n2), .val (.int ia), .unset, .unset, .unset, .unset, .unset] [])) _
        refine XS.iloadN X0.here hx rfl (hb hby at_88) rfl ?_
        show Steps p.tables e below (s₁.setTop (mkF m 89 #[.val (.int x0), .val (.int xpa), .val (.int xpb), .val (.int xpc), .val (.int xr1), .val (.int xr2), .val (.int n1), .val (.int n2), .val (.int (1 : Int32)), .val (.int (0 : Int32)), .val (.int r1), .val (.int r2), .val (.int n2), .val (.int ia), .unset, .unset, .unset, .unset, .unset] [(.int xpb)])) _
        refine X0.ldcInt hx hown (mvT hZ (hw _ (List.mem_of_getElem? (i := 0) rfl))) (g := (mkF m 89 #[.val (.int x0), .val (.int xpa), .val (.int xpb), .val (.int xpc), .val (.int xr1), .val (.int xr2), .val (.int n1), .val (.int n2), .val (.int (1 : Int32)), .val (.int (0 : Int32)), .val (.int r1), .val (.int r2), .val (.int n2), .val (.int ia), .unset, .unset, .unset, .unset, .unset] [(.int xpb)])) rfl (hb hby at_89) _ ?_
        show Steps p.tables e below (s₁.setTop (mkF m 91 #[.val (.int x0), .val (.int xpa), .val (.int xpb), .val (.int xpc), .val (.int xr1), .val (.int xr2), .val (.int n1), .val (.int n2), .val (.int (1 : Int32)), .val (.int (0 : Int32)), .val (.int r1), .val (.int r2), .val (.int n2), .val (.int ia), .unset, .unset, .unset, .unset, .unset] [(.int (2147483647 : Int32)), (.int xpb)])) _
        refine XS.iand X0.here hx rfl (hb hby at_91) rfl ?_
        show Steps p.tables e below (s₁.setTop (mkF m 92 #[.val (.int x0), .val (.int xpa), .val (.int xpb), .val (.int xpc), .val (.int xr1), .val (.int xr2), .val (.int n1), .val (.int n2), .val (.int (1 : Int32)), .val (.int (0 : Int32)), .val (.int r1), .val (.int r2), .val (.int n2), .val (.int ia), .unset, .unset, .unset, .unset, .unset] [(.int (xpb &&& (2147483647 : Int32)))])) _
        refine XS.iload X0.here hx rfl (hb hby at_92) rfl ?_
        show Steps p.tables e below (s₁.setTop (mkF m 94 #[.val (.int x0), .val (.int xpa), .val (.int xpb), .val (.int xpc), .val (.int xr1), .val (.int xr2), .val (.int n1), .val (.int n2), .val (.int (1 : Int32)), .val (.int (0 : Int32)), .val (.int r1), .val (.int r2), .val (.int n2), .val (.int ia), .unset, .unset, .unset, .unset, .unset] [(.int n2), (.int (xpb &&& (2147483647 : Int32)))])) _
        refine iremM X0 hx rfl (hb hby at_94) rfl hnz2 ?_
        show Steps p.tables e below (s₁.setTop (mkF m 95 #[.val (.int x0), .val (.int xpa), .val (.int xpb), .val (.int xpc), .val (.int xr1), .val (.int xr2), .val (.int n1), .val (.int n2), .val (.int (1 : Int32)), .val (.int (0 : Int32)), .val (.int r1), .val (.int r2), .val (.int n2), .val (.int ia), .unset, .unset, .unset, .unset, .unset] [(.int ((xpb &&& (2147483647 : Int32)) % n2))])) _
        rw [← h_ib]
        show Steps p.tables e below (s₁.setTop (mkF m 95 #[.val (.int x0), .val (.int xpa), .val (.int xpb), .val (.int xpc), .val (.int xr1), .val (.int xr2), .val (.int n1), .val (.int n2), .val (.int (1 : Int32)), .val (.int (0 : Int32)), .val (.int r1), .val (.int r2), .val (.int n2), .val (.int ia), .unset, .unset, .unset, .unset, .unset] [(.int ib)])) _
        refine XS.istore X0.here hx rfl (hb hby at_95) rfl (l' := #[.val (.int x0), .val (.int xpa), .val (.int xpb), .val (.int xpc), .val (.int xr1), .val (.int xr2), .val (.int n1), .val (.int n2), .val (.int (1 : Int32)), .val (.int (0 : Int32)), .val (.int r1), .val (.int r2), .val (.int n2), .val (.int ia), .val (.int ib), .unset, .unset, .unset, .unset]) rfl ?_
        show Steps p.tables e below (s₁.setTop (mkF m 97 #[.val (.int x0), .val (.int xpa), .val (.int xpb), .val (.int xpc), .val (.int xr1), .val (.int xr2), .val (.int n1), .val (.int n2), .val (.int (1 : Int32)), .val (.int (0 : Int32)), .val (.int r1), .val (.int r2), .val (.int n2), .val (.int ia), .val (.int ib), .unset, .unset, .unset, .unset] [])) _
        refine XS.iloadN X0.here hx rfl (hb hby at_97) rfl ?_
        show Steps p.tables e below (s₁.setTop (mkF m 98 #[.val (.int x0), .val (.int xpa), .val (.int xpb), .val (.int xpc), .val (.int xr1), .val (.int xr2), .val (.int n1), .val (.int n2), .val (.int (1 : Int32)), .val (.int (0 : Int32)), .val (.int r1), .val (.int r2), .val (.int n2), .val (.int ia), .val (.int ib), .unset, .unset, .unset, .unset] [(.int xpc)])) _
        refine X0.ldcInt hx hown (mvT hZ (hw _ (List.mem_of_getElem? (i := 0) rfl))) (g := (mkF m 98 #[.val (.int x0), .val (.int xpa), .val (.int xpb), .val (.int xpc), .val (.int xr1), .val (.int xr2), .val (.int n1), .val (.int n2), .val (.int (1 : Int32)), .val (.int (0 : Int32)), .val (.int r1), .val (.int r2), .val (.int n2), .val (.int ia), .val (.int ib), .unset, .unset, .unset, .unset] [(.int xpc)])) rfl (hb hby at_98) _ ?_
        show Steps p.tables e below (s₁.setTop (mkF m 100 #[.val (.int x0), .val (.int xpa), .val (.int xpb), .val (.int xpc), .val (.int xr1), .val (.int xr2), .val (.int n1), .val (.int n2), .val (.int (1 : Int32)), .val (.int (0 : Int32)), .val (.int r1), .val (.int r2), .val (.int n2), .val (.int ia), .val (.int ib), .unset, .unset, .unset, .unset] [(.int (2147483647 : Int32)), (.int xpc)])) _
        refine XS.iand X0.here hx rfl (hb hby at_100) rfl ?_
        show Steps p.tables e below (s₁.setTop (mkF m 101 #[.val (.int x0), .val (.int xpa), .val (.int xpb), .val (.int xpc), .val (.int xr1), .val (.int xr2), .val (.int n1), .val (.int n2), .val (.int (1 : Int32)), .val (.int (0 : Int32)), .val (.int r1), .val (.int r2), .val (.int n2), .val (.int ia), .val (.int ib), .unset, .unset, .unset, .unset] [(.int (xpc &&& (2147483647 : Int32)))])) _
        refine XS.iload X0.here hx rfl (hb hby at_101) rfl ?_
        show Steps p.tables e below (s₁.setTop (mkF m 103 #[.val (.int x0), .val (.int xpa), .val (.int xpb), .val (.int xpc), .val (.int xr1), .val (.int xr2), .val (.int n1), .val (.int n2), .val (.int (1 : Int32)), .val (.int (0 : Int32)), .val (.int r1), .val (.int r2), .val (.int n2), .val (.int ia), .val (.int ib), .unset, .unset, .unset, .unset] [(.int n2), (.int (xpc &&& (2147483647 : Int32)))])) _
        refine iremM X0 hx rfl (hb hby at_103) rfl hnz2 ?_
        show Steps p.tables e below (s₁.setTop (mkF m 104 #[.val (.int x0), .val (.int xpa), .val (.int xpb), .val (.int xpc), .val (.int xr1), .val (.int xr2), .val (.int n1), .val (.int n2), .val (.int (1 : Int32)), .val (.int (0 : Int32)), .val (.int r1), .val (.int r2), .val (.int n2), .val (.int ia), .val (.int ib), .unset, .unset, .unset, .unset] [(.int ((xpc &&& (2147483647 : Int32)) % n2))])) _
        rw [← h_ic]
        show Steps p.tables e below (s₁.setTop (mkF m 104 #[.val (.int x0), .val (.int xpa), .val (.int xpb), .val (.int xpc), .val (.int xr1), .val (.int xr2), .val (.int n1), .val (.int n2), .val (.int (1 : Int32)), .val (.int (0 : Int32)), .val (.int r1), .val (.int r2), .val (.int n2), .val (.int ia), .val (.int ib), .unset, .unset, .unset, .unset] [(.int ic)])) _
        refine XS.istore X0.here hx rfl (hb hby at_104) rfl (l' := #[.val (.int x0), .val (.int xpa), .val (.int xpb), .val (.int xpc), .val (.int xr1), .val (.int xr2), .val (.int n1), .val (.int n2), .val (.int (1 : Int32)), .val (.int (0 : Int32)), .val (.int r1), .val (.int r2), .val (.int n2), .val (.int ia), .val (.int ib), .val (.int ic), .unset, .unset, .unset]) rfl ?_
        show Steps p.tables e below (s₁.setTop (mkF m 106 #[.val (.int x0), .val (.int xpa), .val (.int xpb), .val (.int xpc), .val (.int xr1), .val (.int xr2), .val (.int n1), .val (.int n2), .val (.int (1 : Int32)), .val (.int (0 : Int32)), .val (.int r1), .val (.int r2), .val (.int n2), .val (.int ia), .val (.int ib), .val (.int ic), .unset, .unset, .unset] [])) _
        exact kt)
      obtain ⟨T80, h80, X80, e80, E80, A80, D80, -, ls80⟩ := newO X0 hx hZ hown (hw _ (List.mem_of_getElem? (i := 1) rfl)) (hw _ (List.mem_of_getElem? (i := 2) rfl)) (hw _ (List.mem_of_getElem? (i := 3) rfl)) e0 (g := (mkF m 106 #[.val (.int x0), .val (.int xpa), .val (.int xpb), .val (.int xpc), .val (.int xr1), .val (.int xr2), .val (.int n1), .val (.int n2), .val (.int (1 : Int32)), .val (.int (0 : Int32)), .val (.int r1), .val (.int r2), .val (.int n2), .val (.int ia), .val (.int ib), .val (.int ic), .unset, .unset, .unset] [])) rfl (hb hby at_106) (by decide) (by decide)
      obtain ⟨b1, g80⟩ : ∃ z, z = h0.size := ⟨_, rfl⟩
      rw [← g80] at A80 D80 ls80
      have g_b1 : n0 ≤ b1 := Nat.le_trans Z0 (Nat.le_of_eq g80.symm)
      have z81 := Nat.le_trans Z0 E80.1
      have f82 : Fld Z h80 b1 "com/example/saturation/saturation/WalkMemo" "entries" "[J" .null := D80 (Or.inl (hw _ (List.mem_of_getElem? (i := 12) rfl))) (ty := (.array .long)) (by decide)
      have f83 : Fld Z h80 b1 "com/example/saturation/saturation/WalkMemo" "stamp" "I" (.int (0 : Int32)) := D80 (Or.inl (hw _ (List.mem_of_getElem? (i := 34) rfl))) (ty := .int) (by decide)
      have st84 : own_Go p e below (T80.setTop (mkF m 109 #[.val (.int x0), .val (.int xpa), .val (.int xpb), .val (.int xpc), .val (.int xr1), .val (.int xr2), .val (.int n1), .val (.int n2), .val (.int (1 : Int32)), .val (.int (0 : Int32)), .val (.int r1), .val (.int r2), .val (.int n2), .val (.int ia), .val (.int ib), .val (.int ic), .unset, .unset, .unset] [(.ref b1)])) (s₁.setTop (entryFrame m #[(.int x0), (.int xpa), (.int xpb), (.int xpc), (.int xr1), (.int xr2)] maxLocals)) := fun t kt => st79 t (ls80 t kt)
      have st85 : own_Go p e below (T80.setTop (mkF m 110 #[.val (.int x0), .val (.int xpa), .val (.int xpb), .val (.int xpc), .val (.int xr1), .val (.int xr2), .val (.int n1), .val (.int n2), .val (.int (1 : Int32)), .val (.int (0 : Int32)), .val (.int r1), .val (.int r2), .val (.int n2), .val (.int ia), .val (.int ib), .val (.int ic), .unset, .unset, .unset] [(.ref b1), (.ref b1)])) (s₁.setTop (entryFrame m #[(.int x0), (.int xpa), (.int xpb), (.int xpc), (.int xr1), (.int xr2)] maxLocals)) := fun t kt => st84 t (by
        show Steps p.tables e below (T80.setTop (mkF m 109 #[.val (.int x0), .val (.int xpa), .val (.int xpb), .val (.int xpc), .val (.int xr1), .val (.int xr2), .val (.int n1), .val (.int n2), .val (.int (1 : Int32)), .val (.int (0 : Int32)), .val (.int r1), .val (.int r2), .val (.int n2), .val (.int ia), .val (.int ib), .val (.int ic), .unset, .unset, .unset] [(.ref b1)])) _
        refine XS.dup X80.here hx rfl (hb hby at_109) rfl rfl ?_
        show Steps p.tables e below (T80.setTop (mkF m 110 #[.val (.int x0), .val (.int xpa), .val (.int xpb), .val (.int xpc), .val (.int xr1), .val (.int xr2), .val (.int n1), .val (.int n2), .val (.int (1 : Int32)), .val (.int (0 : Int32)), .val (.int r1), .val (.int r2), .val (.int n2), .val (.int ia), .val (.int ib), .val (.int ic), .unset, .unset, .unset] [(.ref b1), (.ref b1)])) _
        exact kt)
      obtain ⟨_, _, ⟨T86, L86, k86, n86⟩, -, X86, ⟨Lc86, hQ86, l86, y86, z86⟩, ls86⟩ := X80.specialBack hx (y := (⟨"com/example/saturation/saturation/WalkMemo", "<init>", "()V"⟩ : MethodName)) rfl hown (mvT hZ (hw _ (List.mem_of_getElem? (i := 4) rfl))) (mvT hZ (hw _ (List.mem_of_getElem? (i := 5) rfl))) (mvT hZ (hw _ (List.mem_of_getElem? (i := 6) rfl))) (by decide) (backOf (W := 1) (rm_init l Z a0 hw [] b1 h80 n0 z81 A80 f83 f82 g_b1) hZ (hw _ (List.mem_of_getElem? (i := 6) rfl)) (hw _ (List.mem_of_getElem? (i := 3) rfl)) (by decide) (by decide)) (g := (mkF m 110 #[.val (.int x0), .val (.int xpa), .val (.int xpb), .val (.int xpc), .val (.int xr1), .val (.int xr2), .val (.int n1), .val (.int n2), .val (.int (1 : Int32)), .val (.int (0 : Int32)), .val (.int r1), .val (.int r2), .val (.int n2), .val (.int ia), .val (.int ib), .val (.int ic), .unset, .unset, .unset] [(.ref b1), (.ref b1)])) rfl (by rw [hml]; rfl) (Steps.refl _) (a := b1) (argsL := []) (rest := [(.ref b1)]) (lenOf own_pd2 rfl) rfl (by show 2 * 0 + _ ≤ _; exact Nat.le_of_eq rfl) (hb hby at_110) (fun _ _ => ⟨rfl, e80, (by decide : 1 + 1 ≤ _), (by decide : 2 + 0 ≤ _)⟩)
      dsimp only [Pt.U, Pt.locs, Pt.cells, Pt.slots] at X86 l86 y86 z86 ls86 hQ86
      subst l86 y86 z86
      obtain ⟨rfl, Nq86, Zq86, Mq86⟩ := hQ86
      have N86 := Fr.app N0 Nq86
      have st87 : own_Go p e below (T86.setTop (mkF m 113 #[.val (.int x0), .val (.int xpa), .val (.int xpb), .val (.int xpc), .val (.int xr1), .val (.int xr2), .val (.int n1), .val (.int n2), .val (.int (1 : Int32)), .val (.int (0 : Int32)), .val (.int r1), .val (.int r2), .val (.int n2), .val (.int ia), .val (.int ib), .val (.int ic), .unset, .unset, .unset] [(.ref b1)])) (s₁.setTop (entryFrame m #[(.int x0), (.int xpa), (.int xpb), (.int xpc), (.int xr1), (.int xr2)] maxLocals)) := fun t kt => st85 t (ls86.trans kt)
      have Eq86 := Mq86.1
      have st88 : own_Go p e below (T86.setTop (mkF m 119 #[.val (.int x0), .val (.int xpa), .val (.int xpb), .val (.int xpc), .val (.int xr1), .val (.int xr2), .val (.int n1), .val (.int n2), .val (.int (1 : Int32)), .val (.int (0 : Int32)), .val (.int r1), .val (.int r2), .val (.int n2), .val (.int ia), .val (.int ib), .val (.int ic), .val (.ref b1), .unset, .unset] [(.int n1), (.ref b1)])) (s₁.setTop (entryFrame m #[(.int x0), (.int xpa), (.int xpb), (.int xpc), (.int xr1), (.int xr2)] maxLocals)) := fun t kt => st87 t (by
        show Steps p.tables e below (T86.setTop (mkF m 113 #[.val (.int x0), .val (.int xpa), .val (.int xpb), .val (.int xpc), .val (.int xr1), .val (.int xr2), .val (.int n1), .val (.int n2), .val (.int (1 : Int32)), .val (.int (0 : Int32)), .val (.int r1), .val (.int r2), .val (.int n2), .val (.int ia), .val (.int ib), .val (.int ic), .unset, .unset, .unset] [(.ref b1)])) _
        refine XS.astore X86.here hx rfl (hb hby at_113) rfl rfl (l' := #[.val (.int x0), .val (.int xpa), .val (.int xpb), .val (.int xpc), .val (.int xr1), .val (.int xr2), .val (.int n1), .val (.int n2), .val (.int (1 : Int32)), .val (.int (0 : Int32)), .val (.int r1), .val (.int r2), .val (.int n2), .val (.int ia), .val (.int ib), .val (.int ic), .val (.ref b1), .unset, .unset]) rfl ?_
        show Steps p.tables e below (T86.setTop (mkF m 115 #[.val (.int x0), .val (.int xpa), .val (.int xpb), .val (.int xpc), .val (.int xr1), .val (.int xr2), .val (.int n1), .val (.int n2), .val (.int (1 : Int32)), .val (.int (0 : Int32)), .val (.int r1), .val (.int r2), .val (.int n2), .val (.int ia), .val (.int ib), .val (.int ic), .val (.ref b1), .unset, .unset] [])) _
        refine XS.aload X86.here hx rfl (hb hby at_115) rfl rfl ?_
        show Steps p.tables e below (T86.setTop (mkF m 117 #[.val (.int x0), .val (.int xpa), .val (.int xpb), .val (.int xpc), .val (.int xr1), .val (.int xr2), .val (.int n1), .val (.int n2), .val (.int (1 : Int32)), .val (.int (0 : Int32)), .val (.int r1), .val (.int r2), .val (.int n2), .val (.int ia), .val (.int ib), .val (.int ic), .val (.ref b1), .unset, .unset] [(.ref b1)])) _
        refine XS.iload X86.here hx rfl (hb hby at_117) rfl ?_
        show Steps p.tables e below (T86.setTop (mkF m 119 #[.val (.int x0), .val (.int xpa), .val (.int xpb), .val (.int xpc), .val (.int xr1), .val (.int xr2), .val (.int n1), .val (.int n2), .val (.int (1 : Int32)), .val (.int (0 : Int32)), .val (.int r1), .val (.int r2), .val (.int n2), .val (.int ia), .val (.int ib), .val (.int ic), .val (.ref b1), .unset, .unset] [(.int n1), (.ref b1)])) _
        exact kt)
      obtain ⟨cq89, kq89, q89a, q89b, q89c⟩ := isOf hZ rfl Eq86
      obtain ⟨_, _, ⟨T89, L89, k89, n89⟩, -, X89, ⟨Lc89, hQ89, l89, y89, z89⟩, ls89⟩ := X86.virtualBack hx (y := (⟨"com/example/saturation/saturation/WalkMemo", "start", "(I)V"⟩ : MethodName)) (z := (⟨"com/example/saturation/saturation/WalkMemo", "start", "(I)V"⟩ : MethodName)) hown (mvT hZ (hw _ (List.mem_of_getElem? (i := 13) rfl))) (mvT hZ (hw _ (List.mem_of_getElem? (i := 14) rfl))) (notFace_of_selects (args := #[]) (mvT hZ (hw _ (List.mem_of_getElem? (i := 16) rfl)))) (mvT hZ (hw _ (List.mem_of_getElem? (i := 16) rfl))) (mvT hZ (hw _ (List.mem_of_getElem? (i := 15) rfl))) (by decide) (backOf (W := 0) (rm_start l Z a0 hw [] b1 n1 ((0 : Int32)) 0 ((fun _ => (0 : Int64))) N1 T86.heap n0 Zq86 Mq86 hnn1 hN1 (by omega) (by omega) (by omega) (by decide)) hZ (hw _ (List.mem_of_getElem? (i := 17) rfl)) (hw _ (List.mem_of_getElem? (i := 3) rfl)) (by decide) (by decide)) q89a q89c (g := (mkF m 119 #[.val (.int x0), .val (.int xpa), .val (.int xpb), .val (.int xpc), .val (.int xr1), .val (.int xr2), .val (.int n1), .val (.int n2), .val (.int (1 : Int32)), .val (.int (0 : Int32)), .val (.int r1), .val (.int r2), .val (.int n2), .val (.int ia), .val (.int ib), .val (.int ic), .val (.ref b1), .unset, .unset] [(.int n1), (.ref b1)])) rfl (by rw [hml]; rfl) (Steps.refl _) (argsL := [(.int n1)]) (rest := []) (lenOf own_pd3 rfl) rfl (by show 2 * 0 + _ ≤ _; exact Nat.le_of_eq rfl) (hb hby at_119) (fun _ _ => ⟨rfl, rfl, (by decide : 2 + 1 ≤ _), (by decide : 2 + 16 ≤ _)⟩)
      dsimp only [Pt.U, Pt.locs, Pt.cells, Pt.slots] at X89 l89 y89 z89 ls89 hQ89
      subst l89 y89 z89
      obtain ⟨rfl, Nq89, Zq89, Mq89⟩ := hQ89
      have N89 := Fr.app N86 Nq89
      have st90 : own_Go p e below (T89.setTop (mkF m 122 #[.val (.int x0), .val (.int xpa), .val (.int xpb), .val (.int xpc), .val (.int xr1), .val (.int xr2), .val (.int n1), .val (.int n2), .val (.int (1 : Int32)), .val (.int (0 : Int32)), .val (.int r1), .val (.int r2), .val (.int n2), .val (.int ia), .val (.int ib), .val (.int ic), .val (.ref b1), .unset, .unset] [])) (s₁.setTop (entryFrame m #[(.int x0), (.int xpa), (.int xpb), (.int xpc), (.int xr1), (.int xr2)] maxLocals)) := fun t kt => st88 t (ls89.trans kt)
      have Eq89 := Mq89.1
      have m91 := own_M.to (st' := (1 : Int32)) (n' := N1) (f' := (fun _ => (0 : Int64))) Mq89 (by decide) (by unfold own_nl; rw [if_pos (by omega)]; omega) (fun q hq => by simp)
      have st92 : own_Go p e below (T89.setTop (mkF m 128 #[.val (.int x0), .val (.int xpa), .val (.int xpb), .val (.int xpc), .val (.int xr1), .val (.int xr2), .val (.int n1), .val (.int n2), .val (.int (1 : Int32)), .val (.int (0 : Int32)), .val (.int r1), .val (.int r2), .val (.int n2), .val (.int ia), .val (.int ib), .val (.int ic), .val (.ref b1), .unset, .unset] [(.int r1), (.int ia), (.ref b1)])) (s₁.setTop (entryFrame m #[(.int x0), (.int xpa), (.int xpb), (.int xpc), (.int xr1), (.int xr2)] maxLocals)) := fun t kt => st90 t (by
        show Steps p.tables e below (T89.setTop (mkF m 122 #[.val (.int x0), .val (.int xpa), .val (.int xpb), .val (.int xpc), .val (.int xr1), .val (.int xr2), .val (.int n1), .val (.int n2), .val (.int (1 : Int32)), .val (.int (0 : Int32)), .val (.int r1), .val (.int r2), .val (.int n2), .val (.int ia), .val (.int ib), .val (.int ic), .val (.ref b1), .unset, .unset] [])) _
        refine XS.aload X89.here hx rfl (hb hby at_122) rfl rfl ?_
        show Steps p.tables e below (T89.setTop (mkF m 124 #[.val (.int x0), .val (.int xpa), .val (.int xpb), .val (.int xpc), .val (.int xr1), .val (.int xr2), .val (.int n1), .val (.int n2), .val (.int (1 : Int32)), .val (.int (0 : Int32)), .val (.int r1), .val (.int r2), .val (.int n2), .val (.int ia), .val (.int ib), .val (.int ic), .val (.ref b1), .unset, .unset] [(.ref b1)])) _
        refine XS.iload X89.here hx rfl (hb hby at_124) rfl ?_
        show Steps p.tables e below (T89.setTop (mkF m 126 #[.val (.int x0), .val (.int xpa), .val (.int xpb), .val (.int xpc), .val (.int xr1), .val (.int xr2), .val (.int n1), .val (.int n2), .val (.int (1 : Int32)), .val (.int (0 : Int32)), .val (.int r1), .val (.int r2), .val (.int n2), .val (.int ia), .val (.int ib), .val (.int ic), .val (.ref b1), .unset, .unset] [(.int ia), (.ref b1)])) _
        refine XS.iload X89.here hx rfl (hb hby at_126) rfl ?_
        show Steps p.tables e below (T89.setTop (mkF m 128 #[.val (.int x0), .val (.int xpa), .val (.int xpb), .val (.int xpc), .val (.int xr1), .val (.int xr2), .val (.int n1), .val (.int n2), .val (.int (1 : Int32)), .val (.int (0 : Int32)), .val (.int r1), .val (.int r2), .val (.int n2), .val (.int ia), .val (.int ib), .val (.int ic), .val (.ref b1), .unset, .unset] [(.int r1), (.int ia), (.ref b1)])) _
        exact kt)
      obtain ⟨cq93, kq93, q93a, q93b, q93c⟩ := isOf hZ rfl Eq89
      obtain ⟨_, _, ⟨T93, L93, k93, n93⟩, -, X93, ⟨Lc93, hQ93, l93, y93, z93⟩, ls93⟩ := X89.virtualBack hx (y := (⟨"com/example/saturation/saturation/WalkMemo", "put", "(II)V"⟩ : MethodName)) (z := (⟨"com/example/saturation/saturation/WalkMemo", "put", "(II)V"⟩ : MethodName)) hown (mvT hZ (hw _ (List.mem_of_getElem? (i := 35) rfl))) (mvT hZ (hw _ (List.mem_of_getElem? (i := 36) rfl))) (notFace_of_selects (args := #[]) (mvT hZ (hw _ (List.mem_of_getElem? (i := 38) rfl)))) (mvT hZ (hw _ (List.mem_of_getElem? (i := 38) rfl))) (mvT hZ (hw _ (List.mem_of_getElem? (i := 37) rfl))) (by decide) (backOf (W := 0) (rm_put l Z a0 hw [] b1 ia r1 ((1 : Int32)) N1 ((fun _ => (0 : Int64))) i T89.heap n0 Zq89 m91 i_ia.1 hk_ia i_ia.2) hZ (hw _ (List.mem_of_getElem? (i := 39) rfl)) (hw _ (List.mem_of_getElem? (i := 3) rfl)) (by decide) (by decide)) q93a q93c (g := (mkF m 128 #[.val (.int x0), .val (.int xpa), .val (.int xpb), .val (.int xpc), .val (.int xr1), .val (.int xr2), .val (.int n1), .val (.int n2), .val (.int (1 : Int32)), .val (.int (0 : Int32)), .val (.int r1), .val (.int r2), .val (.int n2), .val (.int ia), .val (.int ib), .val (.int ic), .val (.ref b1), .unset, .unset] [(.int r1), (.int ia), (.ref b1)])) rfl (by rw [hml]; rfl) (Steps.refl _) (argsL := [(.int ia), (.int r1)]) (rest := []) (lenOf own_pd4 rfl) rfl (by show 2 * 0 + _ ≤ _; exact Nat.le_of_eq rfl) (hb hby at_128) (fun _ _ => ⟨rfl, rfl, (by decide : 3 + 0 ≤ _), (by decide : 18 + 0 ≤ _)⟩)
      dsimp only [Pt.U, Pt.locs, Pt.cells, Pt.slots] at X93 l93 y93 z93 ls93 hQ93
      subst l93 y93 z93
      obtain ⟨rfl, Nq93, Zq93, Mq93⟩ := hQ93
      have N93 := Fr.app N89 Nq93
      have st94 : own_Go p e below (T93.setTop (mkF m 131 #[.val (.int x0), .val (.int xpa), .val (.int xpb), .val (.int xpc), .val (.int xr1), .val (.int xr2), .val (.int n1), .val (.int n2), .val (.int (1 : Int32)), .val (.int (0 : Int32)), .val (.int r1), .val (.int r2), .val (.int n2), .val (.int ia), .val (.int ib), .val (.int ic), .val (.ref b1), .unset, .unset] [])) (s₁.setTop (entryFrame m #[(.int x0), (.int xpa), (.int xpb), (.int xpc), (.int xr1), (.int xr2)] maxLocals)) := fun t kt => st92 t (ls93.trans kt)
      have Eq93 := Mq93.1
      have m95 := own_M.to (st' := (1 : Int32)) (n' := N1) (f' := (fun q => if q = i then own_enc 1 r1 else 0)) Mq93 (rfl) (rfl) (fun _ _ => rfl)
      have hc96 : ¬ ((1 : Int32) = (0 : Int32)) := by decide
      have st97 : own_Go p e below (T93.setTop (mkF m 140 #[.val (.int x0), .val (.int xpa), .val (.int xpb), .val (.int xpc), .val (.int xr1), .val (.int xr2), .val (.int n1), .val (.int n2), .val (.int (1 : Int32)), .val (.int (0 : Int32)), .val (.int r1), .val (.int r2), .val (.int n2), .val (.int ia), .val (.int ib), .val (.int ic), .val (.ref b1), .unset, .unset] [(.int n2), (.ref b1)])) (s₁.setTop (entryFrame m #[(.int x0), (.int xpa), (.int xpb), (.int xpc), (.int xr1), (.int xr2)] maxLocals)) := fun t kt => st94 t (by
        show Steps p.tables e below (T93.setTop (mkF m 131 #[.val (.int x0), .val (.int xpa), .val (.int xpb), .val (.int xpc), .val (.int xr1), .val (.int xr2), .val (.int n1), .val (.int n2), .val (.int (1 : Int32)), .val (.int (0 : Int32)), .val (.int r1), .val (.int r2), .val (.int n2), .val (.int ia), .val (.int ib), .val (.int ic), .val (.ref b1), .unset, .unset] [])) _
        refine XS.iload X93.here hx rfl (hb hby at_131) rfl ?_
        show Steps p.tables e below (T93.setTop (mkF m 133 #[.val (.int x0), .val (.int xpa), .val (.int xpb), .val (.int xpc), .val (.int xr1), .val (.int xr2), .val (.int n1), .val (.int n2), .val (.int (1 : Int32)), .val (.int (0 : Int32)), .val (.int r1), .val (.int r2), .val (.int n2), .val (.int ia), .val (.int ib), .val (.int ic), .val (.ref b1), .unset, .unset] [(.int (1 : Int32))])) _
        refine XS.ifNo X93.here hx rfl (hb hby at_133) rfl ((if0 _ _).trans (feq hc96).1) ?_
        show Steps p.tables e below (T93.setTop (mkF m 136 #[.val (.int x0), .val (.int xpa), .val (.int xpb), .val (.int xpc), .val (.int xr1), .val (.int xr2), .val (.int n1), .val (.int n2), .val (.int (1 : Int32)), .val (.int (0 : Int32)), .val (.int r1), .val (.int r2), .val (.int n2), .val (.int ia), .val (.int ib), .val (.int ic), .val (.ref b1), .unset, .unset] [])) _
        refine XS.aload X93.here hx rfl (hb hby at_136) rfl rfl ?_
        show Steps p.tables e below (T93.setTop (mkF m 138 #[.val (.int x0), .val (.int xpa), .val (.int xpb), .val (.int xpc), .val (.int xr1), .val (.int xr2), .val (.int n1), .val (.int n2), .val (.int (1 : Int32)), .val (.int (0 : Int32)), .val (.int r1), .val (.int r2), .val (.int n2), .val (.int ia), .val (.int ib), .val (.int ic), .val (.ref b1), .unset, .unset] [(.ref b1)])) _
        refine XS.iload X93.here hx rfl (hb hby at_138) rfl ?_
        show Steps p.tables e below (T93.setTop (mkF m 140 #[.val (.int x0), .val (.int xpa), .val (.int xpb), .val (.int xpc), .val (.int xr1), .val (.int xr2), .val (.int n1), .val (.int n2), .val (.int (1 : Int32)), .val (.int (0 : Int32)), .val (.int r1), .val (.int r2), .val (.int n2), .val (.int ia), .val (.int ib), .val (.int ic), .val (.ref b1), .unset, .unset] [(.int n2), (.ref b1)])) _
        exact kt)
      obtain ⟨cq98, kq98, q98a, q98b, q98c⟩ := isOf hZ rfl Eq93
      obtain ⟨_, _, ⟨T98, L98, k98, n98⟩, -, X98, ⟨Lc98, hQ98, l98, y98, z98⟩, ls98⟩ := X93.virtualBack hx (y := (⟨"com/example/saturation/saturation/WalkMemo", "start", "(I)V"⟩ : MethodName)) (z := (⟨"com/example/saturation/saturation/WalkMemo", "start", "(I)V"⟩ : MethodName)) hown (mvT hZ (hw _ (List.mem_of_getElem? (i := 13) rfl))) (mvT hZ (hw _ (List.mem_of_getElem? (i := 14) rfl))) (notFace_of_selects (args := #[]) (mvT hZ (hw _ (List.mem_of_getElem? (i := 16) rfl)))) (mvT hZ (hw _ (List.mem_of_getElem? (i := 16) rfl))) (mvT hZ (hw _ (List.mem_of_getElem? (i := 15) rfl))) (by decide) (backOf (W := 0) (rm_start l Z a0 hw [] b1 n2 ((1 : Int32)) N1 ((fun q => if q = i then own_enc 1 r1 else 0)) N2 T93.heap n0 Zq93 m95 hnn2 hN2 (by omega) (by omega) (by omega) (by decide)) hZ (hw _ (List.mem_of_getElem? (i := 17) rfl)) (hw _ (List.mem_of_getElem? (i := 3) rfl)) (by decide) (by decide)) q98a q98c (g := (mkF m 140 #[.val (.int x0), .val (.int xpa), .val (.int xpb), .val (.int xpc), .val (.int xr1), .val (.int xr2), .val (.int n1), .val (.int n2), .val (.int (1 : Int32)), .val (.int (0 : Int32)), .val (.int r1), .val (.int r2), .val (.int n2), .val (.int ia), .val (.int ib), .val (.int ic), .val (.ref b1), .unset, .unset] [(.int n2), (.ref b1)])) rfl (by rw [hml]; rfl) (Steps.refl _) (argsL := [(.int n2)]) (rest := []) (lenOf own_pd3 rfl) rfl (by show 2 * 0 + _ ≤ _; exact Nat.le_of_eq rfl) (hb hby at_140) (fun _ _ => ⟨rfl, rfl, (by decide : 3 + 1 ≤ _), (by decide : 18 + 16 ≤ _)⟩)
      dsimp only [Pt.U, Pt.locs, Pt.cells, Pt.slots] at X98 l98 y98 z98 ls98 hQ98
      subst l98 y98 z98
      obtain ⟨rfl, Nq98, Zq98, Mq98⟩ := hQ98
      have N98 := Fr.app N93 Nq98
      have st99 : own_Go p e below (T98.setTop (mkF m 143 #[.val (.int x0), .val (.int xpa), .val (.int xpb), .val (.int xpc), .val (.int xr1), .val (.int xr2), .val (.int n1), .val (.int n2), .val (.int (1 : Int32)), .val (.int (0 : Int32)), .val (.int r1), .val (.int r2), .val (.int n2), .val (.int ia), .val (.int ib), .val (.int ic), .val (.ref b1), .unset, .unset] [])) (s₁.setTop (entryFrame m #[(.int x0), (.int xpa), (.int xpb), (.int xpc), (.int xr1), (.int xr2)] maxLocals)) := fun t kt => st97 t (ls98.trans kt)
      have Eq98 := Mq98.1
      have m100 := own_M.to (st' := (2 : Int32)) (n' := (own_nl N1 N2)) (f' := (fun q => if q < N1 then (if q = i then own_enc 1 r1 else 0) else 0)) Mq98 (by decide) (rfl) (fun _ _ => rfl)
      have hge := own_nl_ge N1 N2
      have hc101 : (0 : Int32) = (0 : Int32) := rfl
      have st102 : own_Go p e below (T98.setTop (mkF m 161 #[.val (.int x0), .val (.int xpa), .val (.int xpb), .val (.int xpc), .val (.int xr1), .val (.int xr2), .val (.int n1), .val (.int n2), .val (.int (1 : Int32)), .val (.int (0 : Int32)), .val (.int r1), .val (.int r2), .val (.int n2), .val (.int ia), .val (.int ib), .val (.int ic), .val (.ref b1), .unset, .unset] [(.int ic), (.ref b1)])) (s₁.setTop (entryFrame m #[(.int x0), (.int xpa), (.int xpb), (.int xpc), (.int xr1), (.int xr2)] maxLocals)) := fun t kt => st99 t (by
        show Steps p.tables e below (T98.setTop (mkF m 143 #[.val (.int x0), .val (.int xpa), .val (.int xpb), .val (.int xpc), .val (.int xr1), .val (.int xr2), .val (.int n1), .val (.int n2), .val (.int (1 : Int32)), .val (.int (0 : Int32)), .val (.int r1), .val (.int r2), .val (.int n2), .val (.int ia), .val (.int ib), .val (.int ic), .val (.ref b1), .unset, .unset] [])) _
        refine XS.iload X98.here hx rfl (hb hby at_143) rfl ?_
        show Steps p.tables e below (T98.setTop (mkF m 145 #[.val (.int x0), .val (.int xpa), .val (.int xpb), .val (.int xpc), .val (.int xr1), .val (.int xr2), .val (.int n1), .val (.int n2), .val (.int (1 : Int32)), .val (.int (0 : Int32)), .val (.int r1), .val (.int r2), .val (.int n2), .val (.int ia), .val (.int ib), .val (.int ic), .val (.ref b1), .unset, .unset] [(.int (0 : Int32))])) _
        refine XS.ifYes X98.here hx rfl (pc0 := 145) (pc' := 157) rfl (hb hby at_145) rfl ((if0 _ _).trans (teq hc101).1) (by decide) (by decide) ?_
        show Steps p.tables e below (T98.setTop (mkF m 157 #[.val (.int x0), .val (.int xpa), .val (.int xpb), .val (.int xpc), .val (.int xr1), .val (.int xr2), .val (.int n1), .val (.int n2), .val (.int (1 : Int32)), .val (.int (0 : Int32)), .val (.int r1), .val (.int r2), .val (.int n2), .val (.int ia), .val (.int ib), .val (.int ic), .val (.ref b1), .unset, .unset] [])) _
        refine XS.aload X98.here hx rfl (hb hby at_157) rfl rfl ?_
        show Steps p.tables e below (T98.setTop (mkF m 159 #[.val (.int x0), .val (.int xpa), .val (.int xpb), .val (.int xpc), .val (.int xr1), .val (.int xr2), .val (.int n1), .val (.int n2), .val (.int (1 : Int32)), .val (.int (0 : Int32)), .val (.int r1), .val (.int r2), .val (.int n2), .val (.int ia), .val (.int ib), .val (.int ic), .val (.ref b1), .unset, .unset] [(.ref b1)])) _
        refine XS.iload X98.here hx rfl (hb hby at_159) rfl ?_
        show Steps p.tables e below (T98.setTop (mkF m 161 #[.val (.int x0), .val (.int xpa), .val (.int xpb), .val (.int xpc), .val (.int xr1), .val (.int xr2), .val (.int n1), .val (.int n2), .val (.int (1 : Int32)), .val (.int (0 : Int32)), .val (.int r1), .val (.int r2), .val (.int n2), .val (.int ia), .val (.int ib), .val (.int ic), .val (.ref b1), .unset, .unset] [(.int ic), (.ref b1)])) _
        exact kt)
      obtain ⟨cq103, kq103, q103a, q103b, q103c⟩ := isOf hZ rfl Eq98
      obtain ⟨_, _, ⟨T103, L103, k103, n103⟩, -, X103, ⟨Lc103, hQ103, l103, y103, z103⟩, ls103⟩ := X98.virtualBack hx (y := (⟨"com/example/saturation/saturation/WalkMemo", "get", "(I)I"⟩ : MethodName)) (z := (⟨"com/example/saturation/saturation/WalkMemo", "get", "(I)I"⟩ : MethodName)) hown (mvT hZ (hw _ (List.mem_of_getElem? (i := 40) rfl))) (mvT hZ (hw _ (List.mem_of_getElem? (i := 41) rfl))) (notFace_of_selects (args := #[]) (mvT hZ (hw _ (List.mem_of_getElem? (i := 43) rfl)))) (mvT hZ (hw _ (List.mem_of_getElem? (i := 43) rfl))) (mvT hZ (hw _ (List.mem_of_getElem? (i := 42) rfl))) (by decide) (backOf (W := 0) (rm_get l Z a0 hw [] b1 ic ((2 : Int32)) ((own_nl N1 N2)) ((fun q => if q < N1 then (if q = i then own_enc 1 r1 else 0) else 0)) k T98.heap n0 Zq98 m100 i_ic.1 hk_ic (by have := i_ic.2; omega)) hZ (hw _ (List.mem_of_getElem? (i := 44) rfl)) (hw _ (List.mem_of_getElem? (i := 3) rfl)) (by decide) (by decide)) q103a q103c (g := (mkF m 161 #[.val (.int x0), .val (.int xpa), .val (.int xpb), .val (.int xpc), .val (.int xr1), .val (.int xr2), .val (.int n1), .val (.int n2), .val (.int (1 : Int32)), .val (.int (0 : Int32)), .val (.int r1), .val (.int r2), .val (.int n2), .val (.int ia), .val (.int ib), .val (.int ic), .val (.ref b1), .unset, .unset] [(.int ic), (.ref b1)])) rfl (by rw [hml]; rfl) (Steps.refl _) (argsL := [(.int ic)]) (rest := []) (lenOf own_pd5 rfl) rfl (by show 2 * 0 + _ ≤ _; exact Nat.le_of_eq rfl) (hb hby at_161) (fun _ _ => ⟨rfl, rfl, (by decide : 4 + 0 ≤ _), (by decide : 34 + 0 ≤ _)⟩)
      dsimp only [Pt.U, Pt.locs, Pt.cells, Pt.slots] at X103 l103 y103 z103 ls103 hQ103
      subst l103 y103 z103
      obtain ⟨rfl, Nq103, eq103⟩ := hQ103
      have N103 := Fr.app N98 Nq103
      have st104 : own_Go p e below (T103.setTop (mkF m 164 #[.val (.int x0), .val (.int xpa), .val (.int xpb), .val (.int xpc), .val (.int xr1), .val (.int xr2), .val (.int n1), .val (.int n2), .val (.int (1 : Int32)), .val (.int (0 : Int32)), .val (.int r1), .val (.int r2), .val (.int n2), .val (.int ia), .val (.int ib), .val (.int ic), .val (.ref b1), .unset, .unset] [(.int (own_get (2 : Int32) ((fun q => if q < N1 then (if q = i then own_enc 1 r1 else 0) else 0) k)))])) (s₁.setTop (entryFrame m #[(.int x0), (.int xpa), (.int xpb), (.int xpc), (.int xr1), (.int xr2)] maxLocals)) := fun t kt => st102 t (ls103.trans kt)
      have st105 : own_Go p e below (T103.setTop (mkF m 170 #[.val (.int x0), .val (.int xpa), .val (.int xpb), .val (.int xpc), .val (.int xr1), .val (.int xr2), .val (.int n1), .val (.int n2), .val (.int (1 : Int32)), .val (.int (0 : Int32)), .val (.int r1), .val (.int r2), .val (.int n2), .val (.int ia), .val (.int ib), .val (.int ic), .val (.ref b1), .val (.int (own_get (2 : Int32) ((fun q => if q < N1 then (if q = i then own_enc 1 r1 else 0) else 0) k))), .unset] [(.int ia), (.ref b1)])) (s₁.setTop (entryFrame m #[(.int x0), (.int xpa), (.int xpb), (.int xpc), (.int xr1), (.int xr2)] maxLocals)) := fun t kt => st104 t (by
        show Steps p.tables e below (T103.setTop (mkF m 164 #[.val (.int x0), .val (.int xpa), .val (.int xpb), .val (.int xpc), .val (.int xr1), .val (.int xr2), .val (.int n1), .val (.int n2), .val (.int (1 : Int32)), .val (.int (0 : Int32)), .val (.int r1), .val (.int r2), .val (.int n2), .val (.int ia), .val (.int ib), .val (.int ic), .val (.ref b1), .unset, .unset] [(.int (own_get (2 : Int32) ((fun q => if q < N1 then (if q = i then own_enc 1 r1 else 0) else 0) k)))])) _
        refine XS.istore X103.here hx rfl (hb hby at_164) rfl (l' := #[.val (.int x0), .val (.int xpa), .val (.int xpb), .val (.int xpc), .val (.int xr1), .val (.int xr2), .val (.int n1), .val (.int n2), .val (.int (1 : Int32)), .val (.int (0 : Int32)), .val (.int r1), .val (.int r2), .val (.int n2), .val (.int ia), .val (.int ib), .val (.int ic), .val (.ref b1), .val (.int (own_get (2 : Int32) ((fun q => if q < N1 then (if q = i then own_enc 1 r1 else 0) else 0) k))), .unset]) rfl ?_
        show Steps p.tables e below (T103.setTop (mkF m 166 #[.val (.int x0), .val (.int xpa), .val (.int xpb), .val (.int xpc), .val (.int xr1), .val (.int xr2), .val (.int n1), .val (.int n2), .val (.int (1 : Int32)), .val (.int (0 : Int32)), .val (.int r1), .val (.int r2), .val (.int n2), .val (.int ia), .val (.int ib), .val (.int ic), .val (.ref b1), .val (.int (own_get (2 : Int32) ((fun q => if q < N1 then (if q = i then own_enc 1 r1 else 0) else 0) k))), .unset] [])) _
        refine XS.aload X103.here hx rfl (hb hby at_166) rfl rfl ?_
        show Steps p.tables e below (T103.setTop (mkF m 168 #[.val (.int x0), .val (.int xpa), .val (.int xpb), .val (.int xpc), .val (.int xr1), .val (.int xr2), .val (.int n1), .val (.int n2), .val (.int (1 : Int32)), .val (.int (0 : Int32)), .val (.int r1), .val (.int r2), .val (.int n2), .val (.int ia), .val (.int ib), .val (.int ic), .val (.ref b1), .val (.int (own_get (2 : Int32) ((fun q => if q < N1 then (if q = i then own_enc 1 r1 else 0) else 0) k))), .unset] [(.ref b1)])) _
        refine XS.iload X103.here hx rfl (hb hby at_168) rfl ?_
        show Steps p.tables e below (T103.setTop (mkF m 170 #[.val (.int x0), .val (.int xpa), .val (.int xpb), .val (.int xpc), .val (.int xr1), .val (.int xr2), .val (.int n1), .val (.int n2), .val (.int (1 : Int32)), .val (.int (0 : Int32)), .val (.int r1), .val (.int r2), .val (.int n2), .val (.int ia), .val (.int ib), .val (.int ic), .val (.ref b1), .val (.int (own_get (2 : Int32) ((fun q => if q < N1 then (if q = i then own_enc 1 r1 else 0) else 0) k))), .unset] [(.int ia), (.ref b1)])) _
        exact kt)
      obtain ⟨cq106, kq106, q106a, q106b, q106c⟩ := isOf hZ eq103 Eq98
      obtain ⟨_, _, ⟨T106, L106, k106, n106⟩, -, X106, ⟨Lc106, hQ106, l106, y106, z106⟩, ls106⟩ := X103.virtualBack hx (y := (⟨"com/example/saturation/saturation/WalkMemo", "get", "(I)I"⟩ : MethodName)) (z := (⟨"com/example/saturation/saturation/WalkMemo", "get", "(I)I"⟩ : MethodName)) hown (mvT hZ (hw _ (List.mem_of_getElem? (i := 40) rfl))) (mvT hZ (hw _ (List.mem_of_getElem? (i := 41) rfl))) (notFace_of_selects (args := #[]) (mvT hZ (hw _ (List.mem_of_getElem? (i := 43) rfl)))) (mvT hZ (hw _ (List.mem_of_getElem? (i := 43) rfl))) (mvT hZ (hw _ (List.mem_of_getElem? (i := 42) rfl))) (by decide) (backOf (W := 0) (rm_get l Z a0 hw [] b1 ia ((2 : Int32)) ((own_nl N1 N2)) ((fun q => if q < N1 then (if q = i then own_enc 1 r1 else 0) else 0)) i T98.heap n0 Zq98 m100 i_ia.1 hk_ia (by have := i_ia.2; omega)) hZ (hw _ (List.mem_of_getElem? (i := 44) rfl)) (hw _ (List.mem_of_getElem? (i := 3) rfl)) (by decide) (by decide)) q106a q106c (g := (mkF m 170 #[.val (.int x0), .val (.int xpa), .val (.int xpb), .val (.int xpc), .val (.int xr1), .val (.int xr2), .val (.int n1), .val (.int n2), .val (.int (1 : Int32)), .val (.int (0 : Int32)), .val (.int r1), .val (.int r2), .val (.int n2), .val (.int ia), .val (.int ib), .val (.int ic), .val (.ref b1), .val (.int (own_get (2 : Int32) ((fun q => if q < N1 then (if q = i then own_enc 1 r1 else 0) else 0) k))), .unset] [(.int ia), (.ref b1)])) rfl (by rw [hml]; rfl) (Steps.refl _) (argsL := [(.int ia)]) (rest := []) (lenOf own_pd5 rfl) rfl (by show 2 * 0 + _ ≤ _; exact Nat.le_of_eq rfl) (hb hby at_170) (fun _ _ => ⟨rfl, eq103, (by decide : 4 + 0 ≤ _), (by decide : 34 + 0 ≤ _)⟩)
      dsimp only [Pt.U, Pt.locs, Pt.cells, Pt.slots] at X106 l106 y106 z106 ls106 hQ106
      subst l106 y106 z106
      obtain ⟨rfl, Nq106, eq106⟩ := hQ106
      have N106 := Fr.app N103 Nq106
      have st107 : own_Go p e below (T106.setTop (mkF m 173 #[.val (.int x0), .val (.int xpa), .val (.int xpb), .val (.int xpc), .val (.int xr1), .val (.int xr2), .val (.int n1), .val (.int n2), .val (.int (1 : Int32)), .val (.int (0 : Int32)), .val (.int r1), .val (.int r2), .val (.int n2), .val (.int ia), .val (.int ib), .val (.int ic), .val (.ref b1), .val (.int (own_get (2 : Int32) ((fun q => if q < N1 then (if q = i then own_enc 1 r1 else 0) else 0) k))), .unset] [(.int (own_get (2 : Int32) ((fun q => if q < N1 then (if q = i then own_enc 1 r1 else 0) else 0) i)))])) (s₁.setTop (entryFrame m #[(.int x0), (.int xpa), (.int xpb), (.int xpc), (.int xr1), (.int xr2)] maxLocals)) := fun t kt => st105 t (ls106.trans kt)
      have st108 : own_Go p e below (T106.setTop (mkF m 191 #[.val (.int x0), .val (.int xpa), .val (.int xpb), .val (.int xpc), .val (.int xr1), .val (.int xr2), .val (.int n1), .val (.int n2), .val (.int (1 : Int32)), .val (.int (0 : Int32)), .val (.int r1), .val (.int r2), .val (.int n2), .val (.int ia), .val (.int ib), .val (.int ic), .val (.ref b1), .val (.int (own_get (2 : Int32) ((fun q => if q < N1 then (if q = i then own_enc 1 r1 else 0) else 0) k))), .val (.int (own_get (2 : Int32) ((fun q => if q < N1 then (if q = i then own_enc 1 r1 else 0) else 0) i)))] [(.int r2), (.int r1), (.int (0 : Int32)), (.int (1 : Int32)), (.int ib), (.int ia), (.int ic), (.int (own_get (2 : Int32) ((fun q => if q < N1 then (if q = i then own_enc 1 r1 else 0) else 0) k)))])) (s₁.setTop (entryFrame m #[(.int x0), (.int xpa), (.int xpb), (.int xpc), (.int xr1), (.int xr2)] maxLocals)) := fun t kt => st107 t (by
        show Steps p.tables e below (T106.setTop (mkF m 173 #[.val (.int x0), .val (.int xpa), .val (.int xpb), .val (.int xpc), .val (.int xr1), .val (.int xr2), .val (.int n1), .val (.int n2), .val (.int (1 : Int32)), .val (.int (0 : Int32)), .val (.int r1), .val (.int r2), .val (.int n2), .val (.int ia), .val (.int ib), .val (.int ic), .val (.ref b1), .val (.int (own_get (2 : Int32) ((fun q => if q < N1 then (if q = i then own_enc 1 r1 else 0) else 0) k))), .unset] [(.int (own_get (2 : Int32) ((fun q => if q < N1 then (if q = i then own_enc 1 r1 else 0) else 0) i)))])) _
        refine XS.istore X106.here hx rfl (hb hby at_173) rfl (l' := #[.val (.int x0), .val (.int xpa), .val (.int xpb), .val (.int xpc), .val (.int xr1), .val (.int xr2), .val (.int n1), .val (.int n2), .val (.int (1 : Int32)), .val (.int (0 : Int32)), .val (.int r1), .val (.int r2), .val (.int n2), .val (.int ia), .val (.int ib), .val (.int ic), .val (.ref b1), .val (.int (own_get (2 : Int32) ((fun q => if q < N1 then (if q = i then own_enc 1 r1 else 0) else 0) k))), .val (.int (own_get (2 : Int32) ((fun q => if q < N1 then (if q = i then own_enc 1 r1 else 0) else 0) i)))]) rfl ?_
        show Steps p.tables e below (T106.setTop (mkF m 175 #[.val (.int x0), .val (.int xpa), .val (.int xpb), .val (.int xpc), .val (.int xr1), .val (.int xr2), .val (.int n1), .val (.int n2), .val (.int (1 : Int32)), .val (.int (0 : Int32)), .val (.int r1), .val (.int r2), .val (.int n2), .val (.int ia), .val (.int ib), .val (.int ic), .val (.ref b1), .val (.int (own_get (2 : Int32) ((fun q => if q < N1 then (if q = i then own_enc 1 r1 else 0) else 0) k))), .val (.int (own_get (2 : Int32) ((fun q => if q < N1 then (if q = i then own_enc 1 r1 else 0) else 0) i)))] [])) _
        refine XS.iload X106.here hx rfl (hb hby at_175) rfl ?_
        show Steps p.tables e below (T106.setTop (mkF m 177 #[.val (.int x0), .val (.int xpa), .val (.int xpb), .val (.int xpc), .val (.int xr1), .val (.int xr2), .val (.int n1), .val (.int n2), .val (.int (1 : Int32)), .val (.int (0 : Int32)), .val (.int r1), .val (.int r2), .val (.int n2), .val (.int ia), .val (.int ib), .val (.int ic), .val (.ref b1), .val (.int (own_get (2 : Int32) ((fun q => if q < N1 then (if q = i then own_enc 1 r1 else 0) else 0) k))), .val (.int (own_get (2 : Int32) ((fun q => if q < N1 then (if q = i then own_enc 1 r1 else 0) else 0) i)))] [(.int (own_get (2 : Int32) ((fun q => if q < N1 then (if q = i then own_enc 1 r1 else 0) else 0) k)))])) _
        refine XS.iload X106.here hx rfl (hb hby at_177) rfl ?_
        show Steps p.tables e below (T106.setTop (mkF m 179 #[.val (.int x0), .val (.int xpa), .val (.int xpb), .val (.int xpc), .val (.int xr1), .val (.int xr2), .val (.int n1), .val (.int n2), .val (.int (1 : Int32)), .val (.int (0 : Int32)), .val (.int r1), .val (.int r2), .val (.int n2), .val (.int ia), .val (.int ib), .val (.int ic), .val (.ref b1), .val (.int (own_get (2 : Int32) ((fun q => if q < N1 then (if q = i then own_enc 1 r1 else 0) else 0) k))), .val (.int (own_get (2 : Int32) ((fun q => if q < N1 then (if q = i then own_enc 1 r1 else 0) else 0) i)))] [(.int ic), (.int (own_get (2 : Int32) ((fun q => if q < N1 then (if q = i then own_enc 1 r1 else 0) else 0) k)))])) _
        refine XS.iload X106.here hx rfl (hb hby at_179) rfl ?_
        show Steps p.tables e below (T106.setTop (mkF m 181 #[.val (.int x0), .val (.int xpa), .val (.int xpb), .val (.int xpc), .val (.int xr1), .val (.int xr2), .val (.int n1), .val (.int n2), .val (.int (1 : Int32)), .val (.int (0 : Int32)), .val (.int r1), .val (.int r2), .val (.int n2), .val (.int ia), .val (.int ib), .val (.int ic), .val (.ref b1), .val (.int (own_get (2 : Int32) ((fun q => if q < N1 then (if q = i then own_enc 1 r1 else 0) else 0) k))), .val (.int (own_get (2 : Int32) ((fun q => if q < N1 then (if q = i then own_enc 1 r1 else 0) else 0) i)))] [(.int ia), (.int ic), (.int (own_get (2 : Int32) ((fun q => if q < N1 then (if q = i then own_enc 1 r1 else 0) else 0) k)))])) _
        refine XS.iload X106.here hx rfl (hb hby at_181) rfl ?_
        show Steps p.tables e below (T106.setTop (mkF m 183 #[.val (.int x0), .val (.int xpa), .val (.int xpb), .val (.int xpc), .val (.int xr1), .val (.int xr2), .val (.int n1), .val (.int n2), .val (.int (1 : Int32)), .val (.int (0 : Int32)), .val (.int r1), .val (.int r2), .val (.int n2), .val (.int ia), .val (.int ib), .val (.int ic), .val (.ref b1), .val (.int (own_get (2 : Int32) ((fun q => if q < N1 then (if q = i then own_enc 1 r1 else 0) else 0) k))), .val (.int (own_get (2 : Int32) ((fun q => if q < N1 then (if q = i then own_enc 1 r1 else 0) else 0) i)))] [(.int ib), (.int ia), (.int ic), (.int (own_get (2 : Int32) ((fun q => if q < N1 then (if q = i then own_enc 1 r1 else 0) else 0) k)))])) _
        refine XS.iload X106.here hx rfl (hb hby at_183) rfl ?_
        show Steps p.tables e below (T106.setTop (mkF m 185 #[.val (.int x0), .val (.int xpa), .val (.int xpb), .val (.int xpc), .val (.int xr1), .val (.int xr2), .val (.int n1), .val (.int n2), .val (.int (1 : Int32)), .val (.int (0 : Int32)), .val (.int r1), .val (.int r2), .val (.int n2), .val (.int ia), .val (.int ib), .val (.int ic), .val (.ref b1), .val (.int (own_get (2 : Int32) ((fun q => if q < N1 then (if q = i then own_enc 1 r1 else 0) else 0) k))), .val (.int (own_get (2 : Int32) ((fun q => if q < N1 then (if q = i then own_enc 1 r1 else 0) else 0) i)))] [(.int (1 : Int32)), (.int ib), (.int ia), (.int ic), (.int (own_get (2 : Int32) ((fun q => if q < N1 then (if q = i then own_enc 1 r1 else 0) else 0) k)))])) _
        refine XS.iload X106.here hx rfl (hb hby at_185) rfl ?_
        show Steps p.tables e below (T106.setTop (mkF m 187 #[.val (.int x0), .val (.int xpa), .val (.int xpb), .val (.int xpc), .val (.int xr1), .val (.int xr2), .val (.int n1), .val (.int n2), .val (.int (1 : Int32)), .val (.int (0 : Int32)), .val (.int r1), .val (.int r2), .val (.int n2), .val (.int ia), .val (.int ib), .val (.int ic), .val (.ref b1), .val (.int (own_get (2 : Int32) ((fun q => if q < N1 then (if q = i then own_enc 1 r1 else 0) else 0) k))), .val (.int (own_get (2 : Int32) ((fun q => if q < N1 then (if q = i then own_enc 1 r1 else 0) else 0) i)))] [(.int (0 : Int32)), (.int (1 : Int32)), (.int ib), (.int ia), (.int ic), (.int (own_get (2 : Int32) ((fun q => if q < N1 then (if q = i then own_enc 1 r1 else 0) else 0) k)))])) _
        refine XS.iload X106.here hx rfl (hb hby at_187) rfl ?_
        show Steps p.tables e below (T106.setTop (mkF m 189 #[.val (.int x0), .val (.int xpa), .val (.int xpb), .val (.int xpc), .val (.int xr1), .val (.int xr2), .val (.int n1), .val (.int n2), .val (.int (1 : Int32)), .val (.int (0 : Int32)), .val (.int r1), .val (.int r2), .val (.int n2), .val (.int ia), .val (.int ib), .val (.int ic), .val (.ref b1), .val (.int (own_get (2 : Int32) ((fun q => if q < N1 then (if q = i then own_enc 1 r1 else 0) else 0) k))), .val (.int (own_get (2 : Int32) ((fun q => if q < N1 then (if q = i then own_enc 1 r1 else 0) else 0) i)))] [(.int r1), (.int (0 : Int32)), (.int (1 : Int32)), (.int ib), (.int ia), (.int ic), (.int (own_get (2 : Int32) ((fun q => if q < N1 then (if q = i then own_enc 1 r1 else 0) else 0) k)))])) _
        refine XS.iload X106.here hx rfl (hb hby at_189) rfl ?_
        show Steps p.tables e below (T106.setTop (mkF m 191 #[.val (.int x0), .val (.int xpa), .val (.int xpb), .val (.int xpc), .val (.int xr1), .val (.int xr2), .val (.int n1), .val (.int n2), .val (.int (1 : Int32)), .val (.int (0 : Int32)), .val (.int r1), .val (.int r2), .val (.int n2), .val (.int ia), .val (.int ib), .val (.int ic), .val (.ref b1), .val (.int (own_get (2 : Int32) ((fun q => if q < N1 then (if q = i then own_enc 1 r1 else 0) else 0) k))), .val (.int (own_get (2 : Int32) ((fun q => if q < N1 then (if q = i then own_enc 1 r1 else 0) else 0) i)))] [(.int r2), (.int r1), (.int (0 : Int32)), (.int (1 : Int32)), (.int ib), (.int ia), (.int ic), (.int (own_get (2 : Int32) ((fun q => if q < N1 then (if q = i then own_enc 1 r1 else 0) else 0) k)))])) _
        exact kt)
      obtain ⟨_, _, ⟨T109, L109, k109, n109⟩, -, X109, ⟨Lc109, hQ109, l109, y109, z109⟩, ls109⟩ := Jvm.LawKit.callS X106 hx (y := (⟨"com/example/saturation/saturation/WalkMemoGetPinLaw", "expect", "(IIIZZII)I"⟩ : MethodName)) hown (mvT hZ (hw _ (List.mem_of_getElem? (i := 45) rfl))) (mvT hZ (hw _ (List.mem_of_getElem? (i := 46) rfl))) (mvT hZ (hw _ (List.mem_of_getElem? (i := 47) rfl))) (mvT hZ (hw _ (List.mem_of_getElem? (i := 48) rfl))) (by decide) (backOf (W := 1) (rm_exp l Z a0 hw [] ic ia ib ((1 : Int32)) ((0 : Int32)) r1 r2 T98.heap n0 Zq98) hZ (hw _ (List.mem_of_getElem? (i := 48) rfl)) (hw _ (List.mem_of_getElem? (i := 47) rfl)) (by decide) (by decide)) (g := (mkF m 191 #[.val (.int x0), .val (.int xpa), .val (.int xpb), .val (.int xpc), .val (.int xr1), .val (.int xr2), .val (.int n1), .val (.int n2), .val (.int (1 : Int32)), .val (.int (0 : Int32)), .val (.int r1), .val (.int r2), .val (.int n2), .val (.int ia), .val (.int ib), .val (.int ic), .val (.ref b1), .val (.int (own_get (2 : Int32) ((fun q => if q < N1 then (if q = i then own_enc 1 r1 else 0) else 0) k))), .val (.int (own_get (2 : Int32) ((fun q => if q < N1 then (if q = i then own_enc 1 r1 else 0) else 0) i)))] [(.int r2), (.int r1), (.int (0 : Int32)), (.int (1 : Int32)), (.int ib), (.int ia), (.int ic), (.int (own_get (2 : Int32) ((fun q => if q < N1 then (if q = i then own_enc 1 r1 else 0) else 0) k)))])) rfl (by rw [hml]; rfl) (argsL := [(.int ic), (.int ia), (.int ib), (.int (1 : Int32)), (.int (0 : Int32)), (.int r1), (.int r2)]) (rest := [(.int (own_get (2 : Int32) ((fun q => if q < N1 then (if q = i then own_enc 1 r1 else 0) else 0) k)))]) (lenOf own_pd6 rfl) rfl (by show 2 * 0 + _ ≤ _; exact Nat.le_of_eq rfl) (hb hby at_191) (fun _ _ => ⟨rfl, eq106, (by decide : 4 + 0 ≤ _), (by decide : 34 + 0 ≤ _)⟩)
      dsimp only [Pt.U, Pt.locs, Pt.cells, Pt.slots] at X109 l109 y109 z109 ls109 hQ109
      subst l109 y109 z109
      obtain ⟨rfl, Nq109, eq109⟩ := hQ109
      have N109 := Fr.app N106 Nq109
      have st110 : own_Go p e below (T109.setTop (mkF m 194 #[.val (.int x0), .val (.int xpa), .val (.int xpb), .val (.int xpc), .val (.int xr1), .val (.int xr2), .val (.int n1), .val (.int n2), .val (.int (1 : Int32)), .val (.int (0 : Int32)), .val (.int r1), .val (.int r2), .val (.int n2), .val (.int ia), .val (.int ib), .val (.int ic), .val (.ref b1), .val (.int (own_get (2 : Int32) ((fun q => if q < N1 then (if q = i then own_enc 1 r1 else 0) else 0) k))), .val (.int (own_get (2 : Int32) ((fun q => if q < N1 then (if q = i then own_enc 1 r1 else 0) else 0) i)))] [(.int (own_exp ic ia ib (1 : Int32) (0 : Int32) r1 r2)), (.int (own_get (2 : Int32) ((fun q => if q < N1 then (if q = i then own_enc 1 r1 else 0) else 0) k)))])) (s₁.setTop (entryFrame m #[(.int x0), (.int xpa), (.int xpb), (.int xpc), (.int xr1), (.int xr2)] maxLocals)) := fun t kt => st108 t (ls109 t kt)
      have hc111 : (own_get (2 : Int32) ((fun q => if q < N1 then (if q = i then own_enc 1 r1 else 0) else 0) k)) = (own_exp ic ia ib (1 : Int32) (0 : Int32) r1 r2) := own_L10 p1
      have st112 : own_Go p e below (T109.setTop (mkF m 213 #[.val (.int x0), .val (.int xpa), .val (.int xpb), .val (.int xpc), .val (.int xr1), .val (.int xr2), .val (.int n1), .val (.int n2), .val (.int (1 : Int32)), .val (.int (0 : Int32)), .val (.int r1), .val (.int r2), .val (.int n2), .val (.int ia), .val (.int ib), .val (.int ic), .val (.ref b1), .val (.int (own_get (2 : Int32) ((fun q => if q < N1 then (if q = i then own_enc 1 r1 else 0) else 0) k))), .val (.int (own_get (2 : Int32) ((fun q => if q < N1 then (if q = i then own_enc 1 r1 else 0) else 0) i)))] [(.int r2), (.int r1), (.int (0 : Int32)), (.int (1 : Int32)), (.int ib), (.int ia), (.int ia), (.int (own_get (2 : Int32) ((fun q => if q < N1 then (if q = i then own_enc 1 r1 else 0) else 0) i)))])) (s₁.setTop (entryFrame m #[(.int x0), (.int xpa), (.int xpb), (.int xpc), (.int xr1), (.int xr2)] maxLocals)) := fun t kt => st110 t (by
        show Steps p.tables e below (T109.setTop (mkF m 194 #[.val (.int x0), .val (.int xpa), .val (.int xpb), .val (.int xpc), .val (.int xr1), .val (.int xr2), .val (.int n1), .val (.int n2), .val (.int (1 : Int32)), .val (.int (0 : Int32)), .val (.int r1), .val (.int r2), .val (.int n2), .val (.int ia), .val (.int ib), .val (.int ic), .val (.ref b1), .val (.int (own_get (2 : Int32) ((fun q => if q < N1 then (if q = i then own_enc 1 r1 else 0) else 0) k))), .val (.int (own_get (2 : Int32) ((fun q => if q < N1 then (if q = i then own_enc 1 r1 else 0) else 0) i)))] [(.int (own_exp ic ia ib (1 : Int32) (0 : Int32) r1 r2)), (.int (own_get (2 : Int32) ((fun q => if q < N1 then (if q = i then own_enc 1 r1 else 0) else 0) k)))])) _
        refine XS.icmpNo X109.here hx rfl (hb hby at_194) rfl (teq hc111).2 ?_
        show Steps p.tables e below (T109.setTop (mkF m 197 #[.val (.int x0), .val (.int xpa), .val (.int xpb), .val (.int xpc), .val (.int xr1), .val (.int xr2), .val (.int n1), .val (.int n2), .val (.int (1 : Int32)), .val (.int (0 : Int32)), .val (.int r1), .val (.int r2), .val (.int n2), .val (.int ia), .val (.int ib), .val (.int ic), .val (.ref b1), .val (.int (own_get (2 : Int32) ((fun q => if q < N1 then (if q = i then own_enc 1 r1 else 0) else 0) k))), .val (.int (own_get (2 : Int32) ((fun q => if q < N1 then (if q = i then own_enc 1 r1 else 0) else 0) i)))] [])) _
        refine XS.iload X109.here hx rfl (hb hby at_197) rfl ?_
        show Steps p.tables e below (T109.setTop (mkF m 199 #[.val (.int x0), .val (.int xpa), .val (.int xpb), .val (.int xpc), .val (.int xr1), .val (.int xr2), .val (.int n1), .val (.int n2), .val (.int (1 : Int32)), .val (.int (0 : Int32)), .val (.int r1), .val (.int r2), .val (.int n2), .val (.int ia), .val (.int ib), .val (.int ic), .val (.ref b1), .val (.int (own_get (2 : Int32) ((fun q => if q < N1 then (if q = i then own_enc 1 r1 else 0) else 0) k))), .val (.int (own_get (2 : Int32) ((fun q => if q < N1 then (if q = i then own_enc 1 r1 else 0) else 0) i)))] [(.int (own_get (2 : Int32) ((fun q => if q < N1 then (if q = i then own_enc 1 r1 else 0) else 0) i)))])) _
        refine XS.iload X109.here hx rfl (hb hby at_199) rfl ?_
        show Steps p.tables e below (T109.setTop (mkF m 201 #[.val (.int x0), .val (.int xpa), .val (.int xpb), .val (.int xpc), .val (.int xr1), .val (.int xr2), .val (.int n1), .val (.int n2), .val (.int (1 : Int32)), .val (.int (0 : Int32)), .val (.int r1), .val (.int r2), .val (.int n2), .val (.int ia), .val (.int ib), .val (.int ic), .val (.ref b1), .val (.int (own_get (2 : Int32) ((fun q => if q < N1 then (if q = i then own_enc 1 r1 else 0) else 0) k))), .val (.int (own_get (2 : Int32) ((fun q => if q < N1 then (if q = i then own_enc 1 r1 else 0) else 0) i)))] [(.int ia), (.int (own_get (2 : Int32) ((fun q => if q < N1 then (if q = i then own_enc 1 r1 else 0) else 0) i)))])) _
        refine XS.iload X109.here hx rfl (hb hby at_201) rfl ?_
        show Steps p.tables e below (T109.setTop (mkF m 203 #[.val (.int x0), .val (.int xpa), .val (.int xpb), .val (.int xpc), .val (.int xr1), .val (.int xr2), .val (.int n1), .val (.int n2), .val (.int (1 : Int32)), .val (.int (0 : Int32)), .val (.int r1), .val (.int r2), .val (.int n2), .val (.int ia), .val (.int ib), .val (.int ic), .val (.ref b1), .val (.int (own_get (2 : Int32) ((fun q => if q < N1 then (if q = i then own_enc 1 r1 else 0) else 0) k))), .val (.int (own_get (2 : Int32) ((fun q => if q < N1 then (if q = i then own_enc 1 r1 else 0) else 0) i)))] [(.int ia), (.int ia), (.int (own_get (2 : Int32) ((fun q => if q < N1 then (if q = i then own_enc 1 r1 else 0) else 0) i)))])) _
        refine XS.iload X109.here hx rfl (hb hby at_203) rfl ?_
        show Steps p.tables e below (T109.setTop (mkF m 205 #[.val (.int x0), .val (.int xpa), .val (.int xpb), .val (.int xpc), .val (.int xr1), .val (.int xr2), .val (.int n1), .val (.int n2), .val (.int (1 : Int32)), .val (.int (0 : Int32)), .val (.int r1), .val (.int r2), .val (.int n2), .val (.int ia), .val (.int ib), .val (.int ic), .val (.ref b1), .val (.int (own_get (2 : Int32) ((fun q => if q < N1 then (if q = i then own_enc 1 r1 else 0) else 0) k))), .val (.int (own_get (2 : Int32) ((fun q => if q < N1 then (if q = i then own_enc 1 r1 else 0) else 0) i)))] [(.int ib), (.int ia), (.int ia), (.int (own_get (2 : Int32) ((fun q => if q < N1 then (if q = i then own_enc 1 r1 else 0) else 0) i)))])) _
        refine XS.iload X109.here hx rfl (hb hby at_205) rfl ?_
        show Steps p.tables e below (T109.setTop (mkF m 207 #[.val (.int x0), .val (.int xpa), .val (.int xpb), .val (.int xpc), .val (.int xr1), .val (.int xr2), .val (.int n1), .val (.int n2), .val (.int (1 : Int32)), .val (.int (0 : Int32)), .val (.int r1), .val (.int r2), .val (.int n2), .val (.int ia), .val (.int ib), .val (.int ic), .val (.ref b1), .val (.int (own_get (2 : Int32) ((fun q => if q < N1 then (if q = i then own_enc 1 r1 else 0) else 0) k))), .val (.int (own_get (2 : Int32) ((fun q => if q < N1 then (if q = i then own_enc 1 r1 else 0) else 0) i)))] [(.int (1 : Int32)), (.int ib), (.int ia), (.int ia), (.int (own_get (2 : Int32) ((fun q => if q < N1 then (if q = i then own_enc 1 r1 else 0) else 0) i)))])) _
        refine XS.iload X109.here hx rfl (hb hby at_207) rfl ?_
        show Steps p.tables e below (T109.setTop (mkF m 209 #[.val (.int x0), .val (.int xpa), .val (.int xpb), .val (.int xpc), .val (.int xr1), .val (.int xr2), .val (.int n1), .val (.int n2), .val (.int (1 : Int32)), .val (.int (0 : Int32)), .val (.int r1), .val (.int r2), .val (.int n2), .val (.int ia), .val (.int ib), .val (.int ic), .val (.ref b1), .val (.int (own_get (2 : Int32) ((fun q => if q < N1 then (if q = i then own_enc 1 r1 else 0) else 0) k))), .val (.int (own_get (2 : Int32) ((fun q => if q < N1 then (if q = i then own_enc 1 r1 else 0) else 0) i)))] [(.int (0 : Int32)), (.int (1 : Int32)), (.int ib), (.int ia), (.int ia), (.int (own_get (2 : Int32) ((fun q => if q < N1 then (if q = i then own_enc 1 r1 else 0) else 0) i)))])) _
        refine XS.iload X109.here hx rfl (hb hby at_209) rfl ?_
        show Steps p.tables e below (T109.setTop (mkF m 211 #[.val (.int x0), .val (.int xpa), .val (.int xpb), .val (.int xpc), .val (.int xr1), .val (.int xr2), .val (.int n1), .val (.int n2), .val (.int (1 : Int32)), .val (.int (0 : Int32)), .val (.int r1), .val (.int r2), .val (.int n2), .val (.int ia), .val (.int ib), .val (.int ic), .val (.ref b1), .val (.int (own_get (2 : Int32) ((fun q => if q < N1 then (if q = i then own_enc 1 r1 else 0) else 0) k))), .val (.int (own_get (2 : Int32) ((fun q => if q < N1 then (if q = i then own_enc 1 r1 else 0) else 0) i)))] [(.int r1), (.int (0 : Int32)), (.int (1 : Int32)), (.int ib), (.int ia), (.int ia), (.int (own_get (2 : Int32) ((fun q => if q < N1 then (if q = i then own_enc 1 r1 else 0) else 0) i)))])) _
        refine XS.iload X109.here hx rfl (hb hby at_211) rfl ?_
        show Steps p.tables e below (T109.setTop (mkF m 213 #[.val (.int x0), .val (.int xpa), .val (.int xpb), .val (.int xpc), .val (.int xr1), .val (.int xr2), .val (.int n1), .val (.int n2), .val (.int (1 : Int32)), .val (.int (0 : Int32)), .val (.int r1), .val (.int r2), .val (.int n2), .val (.int ia), .val (.int ib), .val (.int ic), .val (.ref b1), .val (.int (own_get (2 : Int32) ((fun q => if q < N1 then (if q = i then own_enc 1 r1 else 0) else 0) k))), .val (.int (own_get (2 : Int32) ((fun q => if q < N1 then (if q = i then own_enc 1 r1 else 0) else 0) i)))] [(.int r2), (.int r1), (.int (0 : Int32)), (.int (1 : Int32)), (.int ib), (.int ia), (.int ia), (.int (own_get (2 : Int32) ((fun q => if q < N1 then (if q = i then own_enc 1 r1 else 0) else 0) i)))])) _
        exact kt)
      obtain ⟨_, _, ⟨T113, L113, k113, n113⟩, -, X113, ⟨Lc113, hQ113, l113, y113, z113⟩, ls113⟩ := Jvm.LawKit.callS X109 hx (y := (⟨"com/example/saturation/saturation/WalkMemoGetPinLaw", "expect", "(IIIZZII)I"⟩ : MethodName)) hown (mvT hZ (hw _ (List.mem_of_getElem? (i := 45) rfl))) (mvT hZ (hw _ (List.mem_of_getElem? (i := 46) rfl))) (mvT hZ (hw _ (List.mem_of_getElem? (i := 47) rfl))) (mvT hZ (hw _ (List.mem_of_getElem? (i := 48) rfl))) (by decide) (backOf (W := 1) (rm_exp l Z a0 hw [] ia ia ib ((1 : Int32)) ((0 : Int32)) r1 r2 T98.heap n0 Zq98) hZ (hw _ (List.mem_of_getElem? (i := 48) rfl)) (hw _ (List.mem_of_getElem? (i := 47) rfl)) (by decide) (by decide)) (g := (mkF m 213 #[.val (.int x0), .val (.int xpa), .val (.int xpb), .val (.int xpc), .val (.int xr1), .val (.int xr2), .val (.int n1), .val (.int n2), .val (.int (1 : Int32)), .val (.int (0 : Int32)), .val (.int r1), .val (.int r2), .val (.int n2), .val (.int ia), .val (.int ib), .val (.int ic), .val (.ref b1), .val (.int (own_get (2 : Int32) ((fun q => if q < N1 then (if q = i then own_enc 1 r1 else 0) else 0) k))), .val (.int (own_get (2 : Int32) ((fun q => if q < N1 then (if q = i then own_enc 1 r1 else 0) else 0) i)))] [(.int r2), (.int r1), (.int (0 : Int32)), (.int (1 : Int32)), (.int ib), (.int ia), (.int ia), (.int (own_get (2 : Int32) ((fun q => if q < N1 then (if q = i then own_enc 1 r1 else 0) else 0) i)))])) rfl (by rw [hml]; rfl) (argsL := [(.int ia), (.int ia), (.int ib), (.int (1 : Int32)), (.int (0 : Int32)), (.int r1), (.int r2)]) (rest := [(.int (own_get (2 : Int32) ((fun q => if q < N1 then (if q = i then own_enc 1 r1 else 0) else 0) i)))]) (lenOf own_pd6 rfl) rfl (by show 2 * 0 + _ ≤ _; exact Nat.le_of_eq rfl) (hb hby at_213) (fun _ _ => ⟨rfl, eq109, (by decide : 4 + 0 ≤ _), (by decide : 34 + 0 ≤ _)⟩)
      dsimp only [Pt.U, Pt.locs, Pt.cells, Pt.slots] at X113 l113 y113 z113 ls113 hQ113
      subst l113 y113 z113
      obtain ⟨rfl, Nq113, eq113⟩ := hQ113
      have N113 := Fr.app N109 Nq113
      have st114 : own_Go p e below (T113.setTop (mkF m 216 #[.val (.int x0), .val (.int xpa), .val (.int xpb), .val (.int xpc), .val (.int xr1), .val (.int xr2), .val (.int n1), .val (.int n2), .val (.int (1 : Int32)), .val (.int (0 : Int32)), .val (.int r1), .val (.int r2), .val (.int n2), .val (.int ia), .val (.int ib), .val (.int ic), .val (.ref b1), .val (.int (own_get (2 : Int32) ((fun q => if q < N1 then (if q = i then own_enc 1 r1 else 0) else 0) k))), .val (.int (own_get (2 : Int32) ((fun q => if q < N1 then (if q = i then own_enc 1 r1 else 0) else 0) i)))] [(.int (own_exp ia ia ib (1 : Int32) (0 : Int32) r1 r2)), (.int (own_get (2 : Int32) ((fun q => if q < N1 then (if q = i then own_enc 1 r1 else 0) else 0) i)))])) (s₁.setTop (entryFrame m #[(.int x0), (.int xpa), (.int xpb), (.int xpc), (.int xr1), (.int xr2)] maxLocals)) := fun t kt => st112 t (ls113 t kt)
      have hc115 : (own_get (2 : Int32) ((fun q => if q < N1 then (if q = i then own_enc 1 r1 else 0) else 0) i)) = (own_exp ia ia ib (1 : Int32) (0 : Int32) r1 r2) := own_L10 p1
      have st116 : own_Go p e below (T113.setTop (mkF m 224 #[.val (.int x0), .val (.int xpa), .val (.int xpb), .val (.int xpc), .val (.int xr1), .val (.int xr2), .val (.int n1), .val (.int n2), .val (.int (1 : Int32)), .val (.int (0 : Int32)), .val (.int r1), .val (.int r2), .val (.int n2), .val (.int ia), .val (.int ib), .val (.int ic), .val (.ref b1), .val (.int (own_get (2 : Int32) ((fun q => if q < N1 then (if q = i then own_enc 1 r1 else 0) else 0) k))), .val (.int (own_get (2 : Int32) ((fun q => if q < N1 then (if q = i then own_enc 1 r1 else 0) else 0) i)))] [(.int (1 : Int32))])) (s₁.setTop (entryFrame m #[(.int x0), (.int xpa), (.int xpb), (.int xpc), (.int xr1), (.int xr2)] maxLocals)) := fun t kt => st114 t (by
        show Steps p.tables e below (T113.setTop (mkF m 216 #[.val (.int x0), .val (.int xpa), .val (.int xpb), .val (.int xpc), .val (.int xr1), .val (.int xr2), .val (.int n1), .val (.int n2), .val (.int (1 : Int32)), .val (.int (0 : Int32)), .val (.int r1), .val (.int r2), .val (.int n2), .val (.int ia), .val (.int ib), .val (.int ic), .val (.ref b1), .val (.int (own_get (2 : Int32) ((fun q => if q < N1 then (if q = i then own_enc 1 r1 else 0) else 0) k))), .val (.int (own_get (2 : Int32) ((fun q => if q < N1 then (if q = i then own_enc 1 r1 else 0) else 0) i)))] [(.int (own_exp ia ia ib (1 : Int32) (0 : Int32) r1 r2)), (.int (own_get (2 : Int32) ((fun q => if q < N1 then (if q = i then own_enc 1 r1 else 0) else 0) i)))])) _
        refine XS.icmpNo X113.here hx rfl (hb hby at_216) rfl (teq hc115).2 ?_
        show Steps p.tables e below (T113.setTop (mkF m 219 #[.val (.int x0), .val (.int xpa), .val (.int xpb), .val (.int xpc), .val (.int xr1), .val (.int xr2), .val (.int n1), .val (.int n2), .val (.int (1 : Int32)), .val (.int (0 : Int32)), .val (.int r1), .val (.int r2), .val (.int n2), .val (.int ia), .val (.int ib), .val (.int ic), .val (.ref b1), .val (.int (own_get (2 : Int32) ((fun q => if q < N1 then (if q = i then own_enc 1 r1 else 0) else 0) k))), .val (.int (own_get (2 : Int32) ((fun q => if q < N1 then (if q = i then own_enc 1 r1 else 0) else 0) i)))] [])) _
        refine XS.iconst X113.here hx rfl (hb hby at_219) ?_
        show Steps p.tables e below (T113.setTop (mkF m 220 #[.val (.int x0), .val (.int xpa), .val (.int xpb), .val (.int xpc), .val (.int xr1), .val (.int xr2), .val (.int n1), .val (.int n2), .val (.int (1 : Int32)), .val (.int (0 : Int32)), .val (.int r1), .val (.int r2), .val (.int n2), .val (.int ia), .val (.int ib), .val (.int ic), .val (.ref b1), .val (.int (own_get (2 : Int32) ((fun q => if q < N1 then (if q = i then own_enc 1 r1 else 0) else 0) k))), .val (.int (own_get (2 : Int32) ((fun q => if q < N1 then (if q = i then own_enc 1 r1 else 0) else 0) i)))] [(.int (1 : Int32))])) _
        refine XS.goto X113.here hx rfl (pc0 := 220) (pc' := 224) rfl (hb hby at_220) (by decide) (by decide) ?_
        show Steps p.tables e below (T113.setTop (mkF m 224 #[.val (.int x0), .val (.int xpa), .val (.int xpb), .val (.int xpc), .val (.int xr1), .val (.int xr2), .val (.int n1), .val (.int n2), .val (.int (1 : Int32)), .val (.int (0 : Int32)), .val (.int r1), .val (.int r2), .val (.int n2), .val (.int ia), .val (.int ib), .val (.int ic), .val (.ref b1), .val (.int (own_get (2 : Int32) ((fun q => if q < N1 then (if q = i then own_enc 1 r1 else 0) else 0) k))), .val (.int (own_get (2 : Int32) ((fun q => if q < N1 then (if q = i then own_enc 1 r1 else 0) else 0) i)))] [(.int (1 : Int32))])) _
        exact kt)
      obtain ⟨fs, hr, hrun, hended, hW, hsame⟩ := X113.leave (v := (some (.int (1 : Int32)))) (fun h => by rw [Bd.returns] at h; cases h)
      refine ⟨_, _, st116 _ ?_, hrun, hended, _, _, rfl, ?_, ⟨_, rfl⟩, hW, hsame.mono (by decide) (by decide)⟩
      · exact retN X113 hx (t := .boolean) Bd.returns (by simp) (hb hby at_224) hr
      · show Q_rm_law Z x0 xpa xpb xpc xr1 xr2 h0 n0 _ T113.heap _
        rw [eq113]
        exact ⟨rfl, N113⟩
    · obtain ⟨r1, h_r1⟩ : ∃ z : Int32, z = (xr1 &&& (2147483647 : Int32)) := ⟨_, rfl⟩
      obtain ⟨r2, h_r2⟩ : ∃ z : Int32, z = (xr2 &&& (2147483647 : Int32)) := ⟨_, rfl⟩
      have hc117 : ¬ ((1 : Int32) = (0 : Int32)) := by decide
      obtain ⟨ia, h_ia⟩ : ∃ z : Int32, z = ((xpa &&& (2147483647 : Int32)) % n1) := ⟨_, rfl⟩
      obtain ⟨ib, h_ib⟩ : ∃ z : Int32, z = ((xpb &&& (2147483647 : Int32)) % n2) := ⟨_, rfl⟩
      obtain ⟨ic, h_ic⟩ : ∃ z : Int32, z = ((xpc &&& (2147483647 : Int32)) % n2) := ⟨_, rfl⟩
      have i_ia := own_idx xpa n1 (by omega)
      rw [← h_ia, hN1] at i_ia
      have i_ib := own_idx xpb n2 (by omega)
      rw [← h_ib, hN2] at i_ib
      have i_ic := own_idx xpc n2 (by omega)
      rw [← h_ic, hN2] at i_ic
      have p1 := own_pos xr1
      rw [← h_r1] at p1
      have p2 := own_pos xr2
      rw [← h_r2] at p2
      obtain ⟨i, hk_ia⟩ : ∃ z, ia.toNatClampNeg = z := ⟨_, rfl⟩
      rw [hk_ia] at i_ia
      obtain ⟨j, hk_ib⟩ : ∃ z, ib.toNatClampNeg = z := ⟨_, rfl⟩
      rw [hk_ib] at i_ib
      obtain ⟨k, hk_ic⟩ : ∃ z, ic.toNatClampNeg = z := ⟨_, rfl⟩
      rw [hk_ic] at i_ic
      have st118 : own_Go p e below (s₁.setTop (mkF m 106 #[.val (.int x0), .val (.int xpa), .val (.int xpb), .val (.int xpc), .val (.int xr1), .val (.int xr2), .val (.int n1), .val (.int n2), .val (.int (1 : Int32)), .val (.int (1 : Int32)), .val (.int r1), .val (.int r2), .val (.int n2), .val (.int ia), .val (.int ib), .val (.int ic), .unset, .unset, .unset] [])) (s₁.setTop (entryFrame m #[(.int x0), (.int xpa), (.int xpb), (.int xpc), (.int xr1), (.int xr2)] maxLocals)) := fun t kt => st77 t (by
        show Steps p.tables e below (s₁.setTop (mkF m 41 #[.val (.int x0), .val (.int xpa), .val (.int xpb), .val (.int xpc), .val (.int xr1), .val (.int xr2), .val (.int n1), .val (.int n2), .val (.int (1 : Int32)), .unset, .unset, .unset, .unset, .unset, .unset, .unset, .unset, .unset, .unset] [(.int (((x0.toUInt32 >>> ((7 : Int32) &&& 31).toUInt32).toInt32) &&& (1 : Int32)))])) _
        refine XS.ifNo X0.here hx rfl (hb hby at_41) rfl ((if0 _ _).trans (feq q2).1) ?_
        show Steps p.tables e below (s₁.setTop (mkF m 44 #[.val (.int x0), .val (.int xpa), .val (.int xpb), .val (.int xpc), .val (.int xr1), .val (.int xr2), .val (.int n1), .val (.int n2), .val (.int (1 : Int32)), .unset, .unset, .unset, .unset, .unset, .unset, .unset, .unset, .unset, .unset] [])) _
        refine XS.iconst X0.here hx rfl (hb hby at_44) ?_
        show Steps p.tables e below (s₁.setTop (mkF m 45 #[.val (.int x0), .val (.int xpa), .val (.int xpb), .val (.int xpc), .val (.int xr1), .val (.int xr2), .val (.int n1), .val (.int n2), .val (.int (1 : Int32)), .unset, .unset, .unset, .unset, .unset, .unset, .unset, .unset, .unset, .unset] [(.int (1 : Int32))])) _
        refine XS.goto X0.here hx rfl (pc0 := 45) (pc' := 49) rfl (hb hby at_45) (by decide) (by decide) ?_
        show Steps p.tables e below (s₁.setTop (mkF m 49 #[.val (.int x0), .val (.int xpa), .val (.int xpb), .val (.int xpc), .val (.int xr1), .val (.int xr2), .val (.int n1), .val (.int n2), .val (.int (1 : Int32)), .unset, .unset, .unset, .unset, .unset, .unset, .unset, .unset, .unset, .unset] [(.int (1 : Int32))])) _
        refine XS.istore X0.here hx rfl (hb hby at_49) rfl (l' := #[.val (.int x0), .val (.int xpa), .val (.int xpb), .val (.int xpc), .val (.int xr1), .val (.int xr2), .val (.int n1), .val (.int n2), .val (.int (1 : Int32)), .val (.int (1 : Int32)), .unset, .unset, .unset, .unset, .unset, .unset, .unset, .unset, .unset]) rfl ?_
        show Steps p.tables e below (s₁.setTop (mkF m 51 #[.val (.int x0), .val (.int xpa), .val (.int xpb), .val (.int xpc), .val (.int xr1), .val (.int xr2), .val (.int n1), .val (.int n2), .val (.int (1 : Int32)), .val (.int (1 : Int32)), .unset, .unset, .unset, .unset, .unset, .unset, .unset, .unset, .unset] [])) _
        refine XS.iload X0.here hx rfl (hb hby at_51) rfl ?_
        show Steps p.tables e below (s₁.setTop (mkF m 53 #[.val (.int x0), .val (.int xpa), .val (.int xpb), .val (.int xpc), .val (.int xr1), .val (.int xr2), .val (.int n1), .val (.int n2), .val (.int (1 : Int32)), .val (.int (1 : Int32)), .unset, .unset, .unset, .unset, .unset, .unset, .unset, .unset, .unset] [(.int xr1)])) _
        refine X0.ldcInt hx hown (mvT hZ (hw _ (List.mem_of_getElem? (i := 0) rfl))) (g := (mkF m 53 #[.val (.int x0), .val (.int xpa), .val (.int xpb), .val (.int xpc), .val (.int xr1), .val (.int xr2), .val (.int n1), .val (.int n2), .val (.int (1 : Int32)), .val (.int (1 : Int32)), .unset, .unset, .unset, .unset, .unset, .unset, .unset, .unset, .unset] [(.int xr1)])) rfl (hb hby at_53) _ ?_
        show Steps p.tables e below (s₁.setTop (mkF m 55 #[.val (.int x0), .val (.int xpa), .val (.int xpb), .val (.int xpc), .val (.int xr1), .val (.int xr2), .val (.int n1), .val (.int n2), .val (.int (1 : Int32)), .val (.int (1 : Int32)), .unset, .unset, .unset, .unset, .unset, .unset, .unset, .unset, .unset] [(.int (2147483647 : Int32)), (.int xr1)])) _
        refine XS.iand X0.here hx rfl (hb hby at_55) rfl ?_
        show Steps p.tables e below (s₁.setTop (mkF m 56 #[.val (.int x0), .val (.int xpa), .val (.int xpb), .val (.int xpc), .val (.int xr1), .val (.int xr2), .val (.int n1), .val (.int n2), .val (.int (1 : Int32)), .val (.int (1 : Int32)), .unset, .unset, .unset, .unset, .unset, .unset, .unset, .unset, .unset] [(.int (xr1 &&& (2147483647 : Int32)))])) _
        rw [← h_r1]
        show Steps p.tables e below (s₁.setTop (mkF m 56 #[.val (.int x0), .val (.int xpa), .val (.int xpb), .val (.int xpc), .val (.int xr1), .val (.int xr2), .val (.int n1), .val (.int n2), .val (.int (1 : Int32)), .val (.int (1 : Int32)), .unset, .unset, .unset, .unset, .unset, .unset, .unset, .unset, .unset] [(.int r1)])) _
        refine XS.istore X0.here hx rfl (hb hby at_56) rfl (l' := #[.val (.int x0), .val (.int xpa), .val (.int xpb), .val (.int xpc), .val (.int xr1), .val (.int xr2), .val (.int n1), .val (.int n2), .val (.int (1 : Int32)), .val (.int (1 : Int32)), .val (.int r1), .unset, .unset, .unset, .unset, .unset, .unset, .unset, .unset]) rfl ?_
        show Steps p.tables e below (s₁.setTop (mkF m 58 #[.val (.int x0), .val (.int xpa), .val (.int xpb), .val (.int xpc), .val (.int xr1), .val (.int xr2), .val (.int n1), .val (.int n2), .val (.int (1 : Int32)), .val (.int (1 : Int32)), .val (.int r1), .unset, .unset, .unset, .unset, .unset, .unset, .unset, .unset] [])) _
        refine XS.iload X0.here hx rfl (hb hby at_58) rfl ?_
        show Steps p.tables e below (s₁.setTop (mkF m 60 #[.val (.int x0), .val (.int xpa), .val (.int xpb), .val (.int xpc), .val (.int xr1), .val (.int xr2), .val (.int n1), .val (.int n2), .val (.int (1 : Int32)), .val (.int (1 : Int32)), .val (.int r1), .unset, .unset, .unset, .unset, .unset, .unset, .unset, .unset] [(.int xr2)])) _
        refine X0.ldcInt hx hown (mvT hZ (hw _ (List.mem_of_getElem? (i := 0) rfl))) (g := (mkF m 60 #[.val (.int x0), .val (.int xpa), .val (.int xpb), .val (.int xpc), .val (.int xr1), .val (.int xr2), .val (.int n1), .val (.int n2), .val (.int (1 : Int32)), .val (.int (1 : Int32)), .val (.int r1), .unset, .unset, .unset, .unset, .unset, .unset, .unset, .unset] [(.int xr2)])) rfl (hb hby at_60) _ ?_
        show Steps p.tables e below (s₁.setTop (mkF m 62 #[.val (.int x0), .val (.int xpa), .val (.int xpb), .val (.int xpc), .val (.int xr1), .val (.int xr2), .val (.int n1), .val (.int n2), .val (.int (1 : Int32)), .val (.int (1 : Int32)), .val (.int r1), .unset, .unset, .unset, .unset, .unset, .unset, .unset, .unset] [(.int (2147483647 : Int32)), (.int xr2)])) _
        refine XS.iand X0.here hx rfl (hb hby at_62) rfl ?_
        show Steps p.tables e below (s₁.setTop (mkF m 63 #[.val (.int x0), .val (.int xpa), .val (.int xpb), .val (.int xpc), .val (.int xr1), .val (.int xr2), .val (.int n1), .val (.int n2), .val (.int (1 : Int32)), .val (.int (1 : Int32)), .val (.int r1), .unset, .unset, .unset, .unset, .unset, .unset, .unset, .unset] [(.int (xr2 &&& (2147483647 : Int32)))])) _
        rw [← h_r2]
        show Steps p.tables e below (s₁.setTop (mkF m 63 #[.val (.int x0), .val (.int xpa), .val (.int xpb), .val (.int xpc), .val (.int xr1), .val (.int xr2), .val (.int n1), .val (.int n2), .val (.int (1 : Int32)), .val (.int (1 : Int32)), .val (.int r1), .unset, .unset, .unset, .unset, .unset, .unset, .unset, .unset] [(.int r2)])) _
        refine XS.istore X0.here hx rfl (hb hby at_63) rfl (l' := #[.val (.int x0), .val (.int xpa), .val (.int xpb), .val (.int xpc), .val (.int xr1), .val (.int xr2), .val (.int n1), .val (.int n2), .val (.int (1 : Int32)), .val (.int (1 : Int32)), .val (.int r1), .val (.int r2), .unset, .unset, .unset, .unset, .unset, .unset, .unset]) rfl ?_
        show Steps p.tables e below (s₁.setTop (mkF m 65 #[.val (.int x0), .val (.int xpa), .val (.int xpb), .val (.int xpc), .val (.int xr1), .val (.int xr2), .val (.int n1), .val (.int n2), .val (.int (1 : Int32)), .val (.int (1 : Int32)), .val (.int r1), .val (.int r2), .unset, .unset, .unset, .unset, .unset, .unset, .unset] [])) _
        refine XS.iload X0.here hx rfl (hb hby at_65) rfl ?_
        show Steps p.tables e below (s₁.setTop (mkF m 67 #[.val (.int x0), .val (.int xpa), .val (.int xpb), .val (.int xpc), .val (.int xr1), .val (.int xr2), .val (.int n1), .val (.int n2), .val (.int (1 : Int32)), .val (.int (1 : Int32)), .val (.int r1), .val (.int r2), .unset, .unset, .unset, .unset, .unset, .unset, .unset] [(.int (1 : Int32))])) _
        refine XS.ifNo X0.here hx rfl (hb hby at_67) rfl ((if0 _ _).trans (feq hc117).1) ?_
        show Steps p.tables e below (s₁.setTop (mkF m 70 #[.val (.int x0), .val (.int xpa), .val (.int xpb), .val (.int xpc), .val (.int xr1), .val (.int xr2), .val (.int n1), .val (.int n2), .val (.int (1 : Int32)), .val (.int (1 : Int32)), .val (.int r1), .val (.int r2), .unset, .unset, .unset, .unset, .unset, .unset, .unset] [])) _
        refine XS.iload X0.here hx rfl (hb hby at_70) rfl ?_
        show Steps p.tables e below (s₁.setTop (mkF m 72 #[.val (.int x0), .val (.int xpa), .val (.int xpb), .val (.int xpc), .val (.int xr1), .val (.int xr2), .val (.int n1), .val (.int n2), .val (.int (1 : Int32)), .val (.int (1 : Int32)), .val (.int r1), .val (.int r2), .unset, .unset, .unset, .unset, .unset, .unset, .unset] [(.int n2)])) _
        refine XS.goto X0.here hx rfl (pc0 := 72) (pc' := 77) rfl (hb hby at_72) (by decide) (by decide) ?_
        show Steps p.tables e below (s₁.setTop (mkF m 77 #[.val (.int x0), .val (.int xpa), .val (.int xpb), .val (.int xpc), .val (.int xr1), .val (.int xr2), .val (.int n1), .val (.int n2), .val (.int (1 : Int32)), .val (.int (1 : Int32)), .val (.int r1), .val (.int r2), .unset, .unset, .unset, .unset, .unset, .unset, .unset] [(.int n2)])) _
        refine XS.istore X0.here hx rfl (hb hby at_77) rfl (l' := #[.val (.int x0), .val (.int xpa), .val (.int xpb), .val (.int xpc), .val (.int xr1), .val (.int xr2), .val (.int n1), .val (.int n2), .val (.int (1 : Int32)), .val (.int (1 : Int32)), .val (.int r1), .val (.int r2), .val (.int n2), .unset, .unset, .unset, .unset, .unset, .unset]) rfl ?_
        show Steps p.tables e below (s₁.setTop (mkF m 79 #[.val (.int x0), .val (.int xpa), .val (.int xpb), .val (.int xpc), .val (.int xr1), .val (.int xr2), .val (.int n1), .val (.int n2), .val (.int (1 : Int32)), .val (.int (1 : Int32)), .val (.int r1), .val (.int r2), .val (.int n2), .unset, .unset, .unset, .unset, .unset, .unset] [])) _
        refine XS.iloadN X0.here hx rfl (hb hby at_79) rfl ?_
        show Steps p.tables e below (s₁.setTop (mkF m 80 #[.val (.int x0), .val (.int xpa), .val (.int xpb), .val (.int xpc), .val (.int xr1), .val (.int xr2), .val (.int n1), .val (.int n2), .val (.int (1 : Int32)), .val (.int (1 : Int32)), .val (.int r1), .val (.int r2), .val (.int n2), .unset, .unset, .unset, .unset, .unset, .unset] [(.int xpa)])) _
        refine X0.ldcInt hx hown (mvT hZ (hw _ (List.mem_of_getElem? (i := 0) rfl))) (g := (mkF m 80 #[.val (.int x0), .val (.int xpa), .val (.int xpb), .val (.int xpc), .val (.int xr1), .val (.int xr2), .val (.int n1), .val (.int n2), .val (.int (1 : Int32)), .val (.int (1 : Int32)), .val (.int r1), .val (.int r2), .val (.int n2), .unset, .unset, .unset, .unset, .unset, .unset] [(.int xpa)])) rfl (hb hby at_80) _ ?_
        show Steps p.tables e below (s₁.setTop (mkF m 82 #[.val (.int x0), .val (.int xpa), .val (.int xpb), .val (.int xpc), .val (.int xr1), .val (.int xr2), .val (.int n1), .val (.int n2), .val (.int (1 : Int32)), .val (.int (1 : Int32)), .val (.int r1), .val (.int r2), .val (.int n2), .unset, .unset, .unset, .unset, .unset, .unset] [(.int (2147483647 : Int32)), (.int xpa)])) _
        refine XS.iand X0.here hx rfl (hb hby at_82) rfl ?_
        show Steps p.tables e below (s₁.setTop (mkF m 83 #[.val (.int x0), .val (.int xpa), .val (.int xpb), .val (.int xpc), .val (.int xr1), .val (.int xr2), .val (.int n1), .val (.int n2), .val (.int (1 : Int32)), .val (.int (1 : Int32)), .val (.int r1), .val (.int r2), .val (.int n2), .unset, .unset, .unset, .unset, .unset, .unset] [(.int (xpa &&& (2147483647 : Int32)))])) _
        refine XS.iload X0.here hx rfl (hb hby at_83) rfl ?_
        show Steps p.tables e below (s₁.setTop (mkF m 85 #[.val (.int x0), .val (.int xpa), .val (.int xpb), .val (.int xpc), .val (.int xr1), .val (.int xr2), .val (.int n1), .val (.int n2), .val (.int (1 : Int32)), .val (.int (1 : Int32)), .val (.int r1), .val (.int r2), .val (.int n2), .unset, .unset, .unset, .unset, .unset, .unset] [(.int n1), (.int (xpa &&& (2147483647 : Int32)))])) _
        refine iremM X0 hx rfl (hb hby at_85) rfl hnz1 ?_
        show Steps p.tables e below (s₁.setTop (mkF m 86 #[.val (.int x0), .val (.int xpa), .val (.int xpb), .val (.int xpc), .val (.int xr1), .val (.int xr2), .val (.int n1), .val (.int n2), .val (.int (1 : Int32)), .val (.int (1 : Int32)), .val (.int r1), .val (.int r2), .val (.int n2), .unset, .unset, .unset, .unset, .unset, .unset] [(.int ((xpa &&& (2147483647 : Int32)) % n1))])) _
        rw [← h_ia]
        show Steps p.tables e below (s₁.setTop (mkF m 86 #[.val (.int x0), .val (.int xpa), .val (.int xpb), .val (.int xpc), .val (.int xr1), .val (.int xr2), .val (.int n1), .val (.int n2), .val (.int (1 : Int32)), .val (.int (1 : Int32)), .val (.int r1), .val (.int r2), .val (.int n2), .unset, .unset, .unset, .unset, .unset, .unset] [(.int ia)])) _
        refine XS.istore X0.here hx rfl (hb hby at_86) rfl (l' := #[.val (.int x0), .val (.int xpa), .val (.int xpb), .val (.int xpc), .val (.int xr1), .val (.int xr2), .val (.int n1), .val (.int n2), .val (.int (1 : Int32)), .val (.int (1 : Int32)), .val (.int r1), .val (.int r2), .val (.int n2), .val (.int ia), .unset, .unset, .unset, .unset, .unset]) rfl ?_
        show Steps p.tables e below (s₁.setTop (mkF m 88 #[.val (.int x0), .val (.int xpa), .val (.int xpb), .val (.int xpc), .val (.int xr1), .val (.int xr2), .val (.int n1), .val (.int n2), .val (.int (1 : Int32)), .val (.int (1 : Int32)), .val (.int r1), .val (.int r2), .val (.int n2), .val (.int ia), .unset, .unset, .unset, .unset, .unset] [])) _
        refine XS.iloadN X0.here hx rfl (hb hby at_88) rfl ?_
        show Steps p.tables e below (s₁.setTop (mkF m 89 #[.val (.int x0), .val (.int xpa), .val (.int xpb), .val (.int xpc), .val (.int xr1), .val (.int xr2), .val (.int n1), .val (.int n2), .val (.int (1 : Int32)), .val (.int (1 : Int32)), .val (.int r1), .val (.int r2), .val (.int n2), .val (.int ia), .unset, .unset, .unset, .unset, .unset] [(.int xpb)])) _
        refine X0.ldcInt hx hown (mvT hZ (hw _ (List.mem_of_getElem? (i := 0) rfl))) (g := (mkF m 89 #[.val (.int x0), .val (.int xpa), .val (.int xpb), .val (.int xpc), .val (.int xr1), .val (.int xr2), .val (.int n1), .val (.int n2), .val (.int (1 : Int32)), .val (.int (1 : Int32)), .val (.int r1), .val (.int r2), .val (.int n2), .val (.int ia), .unset, .unset, .unset, .unset, .unset] [(.int xpb)])) rfl (hb hby at_89) _ ?_
        show Steps p.tables e below (s₁.setTop (mkF m 91 #[.val (.int x0), .val (.int xpa), .val (.int xpb), .val (.int xpc), .val (.int xr1), .val (.int xr2), .val (.int n1), .val (.int n2), .val (.int (1 : Int32)), .val (.int (1 : Int32)), .val (.int r1), .val (.int r2), .val (.int n2), .val (.int ia), .unset, .unset, .unset, .unset, .unset] [(.int (2147483647 : Int32)), (.int xpb)])) _
        refine XS.iand X0.here hx rfl (hb hby at_91) rfl ?_
        show Steps p.tables e below (s₁.setTop (mkF m 92 #[.val (.int x0), .val (.int xpa), .val (.int xpb), .val (.int xpc), .val (.int xr1), .val (.int xr2), .val (.int n1), .val (.int n2), .val (.int (1 : Int32)), .val (.int (1 : Int32)), .val (.int r1), .val (.int r2), .val (.int n2), .val (.int ia), .unset, .unset, .unset, .unset, .unset] [(.int (xpb &&& (2147483647 : Int32)))])) _
        refine XS.iload X0.here hx rfl (hb hby at_92) rfl ?_
        show Steps p.tables e below (s₁.setTop (mkF m 94 #[.val (.int x0), .val (.int xpa), .val (.int xpb), .val (.int xpc), .val (.int xr1), .val (.int xr2), .val (.int n1), .val (.int n2), .val (.int (1 : Int32)), .val (.int (1 : Int32)), .val (.int r1), .val (.int r2), .val (.int n2), .val (.int ia), .unset, .unset, .unset, .unset, .unset] [(.int n2), (.int (xpb &&& (2147483647 : Int32)))])) _
        refine iremM X0 hx rfl (hb hby at_94) rfl hnz2 ?_
        show Steps p.tables e below (s₁.setTop (mkF m 95 #[.val (.int x0), .val (.int xpa), .val (.int xpb), .val (.int xpc), .val (.int xr1), .val (.int xr2), .val (.int n1), .val (.int n2), .val (.int (1 : Int32)), .val (.int (1 : Int32)), .val (.int r1), .val (.int r2), .val (.int n2), .val (.int ia), .unset, .unset, .unset, .unset, .unset] [(.int ((xpb &&& (2147483647 : Int32)) % n2))])) _
        rw [← h_ib]
        show Steps p.tables e below (s₁.setTop (mkF m 95 #[.val (.int x0), .val (.int xpa), .val (.int xpb), .val (.int xpc), .val (.int xr1), .val (.int xr2), .val (.int n1), .val (.int n2), .val (.int (1 : Int32)), .val (.int (1 : Int32)), .val (.int r1), .val (.int r2), .val (.int n2), .val (.int ia), .unset, .unset, .unset, .unset, .unset] [(.int ib)])) _
        refine XS.istore X0.here hx rfl (hb hby at_95) rfl (l' := #[.val (.int x0), .val (.int xpa), .val (.int xpb), .val (.int xpc), .val (.int xr1), .val (.int xr2), .val (.int n1), .val (.int n2), .val (.int (1 : Int32)), .val (.int (1 : Int32)), .val (.int r1), .val (.int r2), .val (.int n2), .val (.int ia), .val (.int ib), .unset, .unset, .unset, .unset]) rfl ?_
        show Steps p.tables e below (s₁.setTop (mkF m 97 #[.val (.int x0), .val (.int xpa), .val (.int xpb), .val (.int xpc), .val (.int xr1), .val (.int xr2), .val (.int n1), .val (.int n2), .val (.int (1 : Int32)), .val (.int (1 : Int32)), .val (.int r1), .val (.int r2), .val (.int n2), .val (.int ia), .val (.int ib), .unset, .unset, .unset, .unset] [])) _
        refine XS.iloadN X0.here hx rfl (hb hby at_97) rfl ?_
        show Steps p.tables e below (s₁.setTop (mkF m 98 #[.val (.int x0), .val (.int xpa), .val (.int xpb), .val (.int xpc), .val (.int xr1), .val (.int xr2), .val (.int n1), .val (.int n2), .val (.int (1 : Int32)), .val (.int (1 : Int32)), .val (.int r1), .val (.int r2), .val (.int n2), .val (.int ia), .val (.int ib), .unset, .unset, .unset, .unset] [(.int xpc)])) _
        refine X0.ldcInt hx hown (mvT hZ (hw _ (List.mem_of_getElem? (i := 0) rfl))) (g := (mkF m 98 #[.val (.int x0), .val (.int xpa), .val (.int xpb), .val (.int xpc), .val (.int xr1), .val (.int xr2), .val (.int n1), .val (.int n2), .val (.int (1 : Int32)), .val (.int (1 : Int32)), .val (.int r1), .val (.int r2), .val (.int n2), .val (.int ia), .val (.int ib), .unset, .unset, .unset, .unset] [(.int xpc)])) rfl (hb hby at_98) _ ?_
        show Steps p.tables e below (s₁.setTop (mkF m 100 #[.val (.int x0), .val (.int xpa), .val (.int xpb), .val (.int xpc), .val (.int xr1), .val (.int xr2), .val (.int n1), .val (.int n2), .val (.int (1 : Int32)), .val (.int (1 : Int32)), .val (.int r1), .val (.int r2), .val (.int n2), .val (.int ia), .val (.int ib), .unset, .unset, .unset, .unset] [(.int (2147483647 : Int32)), (.int xpc)])) _
        refine XS.iand X0.here hx rfl (hb hby at_100) rfl ?_
        show Steps p.tables e below (s₁.setTop (mkF m 101 #[.val (.int x0), .val (.int xpa), .val (.int xpb), .val (.int xpc), .val (.int xr1), .val (.int xr2), .val (.int n1), .val (.int n2), .val (.int (1 : Int32)), .val (.int (1 : Int32)), .val (.int r1), .val (.int r2), .val (.int n2), .val (.int ia), .val (.int ib), .unset, .unset, .unset, .unset] [(.int (xpc &&& (2147483647 : Int32)))])) _
        refine XS.iload X0.here hx rfl (hb hby at_101) rfl ?_
        show Steps p.tables e below (s₁.setTop (mkF m 103 #[.val (.int x0), .val (.int xpa), .val (.int xpb), .val (.int xpc), .val (.int xr1), .val (.int xr2), .val (.int n1), .val (.int n2), .val (.int (1 : Int32)), .val (.int (1 : Int32)), .val (.int r1), .val (.int r2), .val (.int n2), .val (.int ia), .val (.int ib), .unset, .unset, .unset, .unset] [(.int n2), (.int (xpc &&& (2147483647 : Int32)))])) _
        refine iremM X0 hx rfl (hb hby at_103) rfl hnz2 ?_
        show Steps p.tables e below (s₁.setTop (mkF m 104 #[.val (.int x0), .val (.int xpa), .val (.int xpb), .val (.int xpc), .val (.int xr1), .val (.int xr2), .val (.int n1), .val (.int n2), .val (.int (1 : Int32)), .val (.int (1 : Int32)), .val (.int r1), .val (.int r2), .val (.int n2), .val (.int ia), .val (.int ib), .unset, .unset, .unset, .unset] [(.int ((xpc &&& (2147483647 : Int32)) % n2))])) _
        rw [← h_ic]
        show Steps p.tables e below (s₁.setTop (mkF m 104 #[.val (.int x0), .val (.int xpa), .val (.int xpb), .val (.int xpc), .val (.int xr1), .val (.int xr2), .val (.int n1), .val (.int n2), .val (.int (1 : Int32)), .val (.int (1 : Int32)), .val (.int r1), .val (.int r2), .val (.int n2), .val (.int ia), .val (.int ib), .unset, .unset, .unset, .unset] [(.int ic)])) _
        refine XS.istore X0.here hx rfl (hb hby at_104) rfl (l' := #[.val (.int x0), .val (.int xpa), .val (.int xpb), .val (.int xpc), .val (.int xr1), .val (.int xr2), .val (.int n1), .val (.int n2), .val (.int (1 : Int32)), .val (.int (1 : Int32)), .val (.int r1), .val (.int r2), .val (.int n2), .val (.int ia), .val (.int ib), .val (.int ic), .unset, .unset, .unset]) rfl ?_
        show Steps p.tables e below (s₁.setTop (mkF m 106 #[.val (.int x0), .val (.int xpa), .val (.int xpb), .val (.int xpc), .val (.int xr1), .val (.int xr2), .val (.int n1), .val (.int n2), .val (.int (1 : Int32)), .val (.int (1 : Int32)), .val (.int r1), .val (.int r2), .val (.int n2), .val (.int ia), .val (.int ib), .val (.int ic), .unset, .unset, .unset] [])) _
        exact kt)
      obtain ⟨T119, h119, X119, e119, E119, A119, D119, -, ls119⟩ := newO X0 hx hZ hown (hw _ (List.mem_of_getElem? (i := 1) rfl)) (hw _ (List.mem_of_getElem? (i := 2) rfl)) (hw _ (List.mem_of_getElem? (i := 3) rfl)) e0 (g := (mkF m 106 #[.val (.int x0), .val (.int xpa), .val (.int xpb), .val (.int xpc), .val (.int xr1), .val (.int xr2), .val (.int n1), .val (.int n2), .val (.int (1 : Int32)), .val (.int (1 : Int32)), .val (.int r1), .val (.int r2), .val (.int n2), .val (.int ia), .val (.int ib), .val (.int ic), .unset, .unset, .unset] [])) rfl (hb hby at_106) (by decide) (by decide)
      obtain ⟨b1, g119⟩ : ∃ z, z = h0.size := ⟨_, rfl⟩
      rw [← g119] at A119 D119 ls119
      have g_b1 : n0 ≤ b1 := Nat.le_trans Z0 (Nat.le_of_eq g119.symm)
      have z120 := Nat.le_trans Z0 E119.1
      have f121 : Fld Z h119 b1 "com/example/saturation/saturation/WalkMemo" "entries" "[J" .null := D119 (Or.inl (hw _ (List.mem_of_getElem? (i := 12) rfl))) (ty := (.array .long)) (by decide)
      have f122 : Fld Z h119 b1 "com/example/saturation/saturation/WalkMemo" "stamp" "I" (.int (0 : Int32)) := D119 (Or.inl (hw _ (List.mem_of_getElem? (i := 34) rfl))) (ty := .int) (by decide)
      have st123 : own_Go p e below (T119.setTop (mkF m 109 #[.val (.int x0), .val (.int xpa), .val (.int xpb), .val (.int xpc), .val (.int xr1), .val (.int xr2), .val (.int n1), .val (.int n2), .val (.int (1 : Int32)), .val (.int (1 : Int32)), .val (.int r1), .val (.int r2), .val (.int n2), .val (.int ia), .val (.int ib), .val (.int ic), .unset, .unset, .unset] [(.ref b1)])) (s₁.setTop (entryFrame m #[(.int x0), (.int xpa), (.int xpb), (.int xpc), (.int xr1), (.int xr2)] maxLocals)) := fun t kt => st118 t (ls119 t kt)
      have st124 : own_Go p e below (T119.setTop (mkF m 110 #[.val (.int x0), .val (.int xpa), .val (.int xpb), .val (.int xpc), .val (.int xr1), .val (.int xr2), .val (.int n1), .val (.int n2), .val (.int (1 : Int32)), .val (.int (1 : Int32)), .val (.int r1), .val (.int r2), .val (.int n2), .val (.int ia), .val (.int ib), .val (.int ic), .unset, .unset, .unset] [(.ref b1), (.ref b1)])) (s₁.setTop (entryFrame m #[(.int x0), (.int xpa), (.int xpb), (.int xpc), (.int xr1), (.int xr2)] maxLocals)) := fun t kt => st123 t (by
        show Steps p.tables e below (T119.setTop (mkF m 109 #[.val (.int x0), .val (.int xpa), .val (.int xpb), .val (.int xpc), .val (.int xr1), .val (.int xr2), .val (.int n1), .val (.int n2), .val (.int (1 : Int32)), .val (.int (1 : Int32)), .val (.int r1), .val (.int r2), .val (.int n2), .val (.int ia), .val (.int ib), .val (.int ic), .unset, .unset, .unset] [(.ref b1)])) _
        refine XS.dup X119.here hx rfl (hb hby at_109) rfl rfl ?_
        show Steps p.tables e below (T119.setTop (mkF m 110 #[.val (.int x0), .val (.int xpa), .val (.int xpb), .val (.int xpc), .val (.int xr1), .val (.int xr2), .val (.int n1), .val (.int n2), .val (.int (1 : Int32)), .val (.int (1 : Int32)), .val (.int r1), .val (.int r2), .val (.int n2), .val (.int ia), .val (.int ib), .val (.int ic), .unset, .unset, .unset] [(.ref b1), (.ref b1)])) _
        exact kt)
      obtain ⟨_, _, ⟨T125, L125, k125, n125⟩, -, X125, ⟨Lc125, hQ125, l125, y125, z125⟩, ls125⟩ := X119.specialBack hx (y := (⟨"com/example/saturation/saturation/WalkMemo", "<init>", "()V"⟩ : MethodName)) rfl hown (mvT hZ (hw _ (List.mem_of_getElem? (i := 4) rfl))) (mvT hZ (hw _ (List.mem_of_getElem? (i := 5) rfl))) (mvT hZ (hw _ (List.mem_of_getElem? (i := 6) rfl))) (by decide) (backOf (W := 1) (rm_init l Z a0 hw [] b1 h119 n0 z120 A119 f122 f121 g_b1) hZ (hw _ (List.mem_of_getElem? (i := 6) rfl)) (hw _ (List.mem_of_getElem? (i := 3) rfl)) (by decide) (by decide)) (g := (mkF m 110 #[.val (.int x0), .val (.int xpa), .val (.int xpb), .val (.int xpc), .val (.int xr1), .val (.int xr2), .val (.int n1), .val (.int n2), .val (.int (1 : Int32)), .val (.int (1 : Int32)), .val (.int r1), .val (.int r2), .val (.int n2), .val (.int ia), .val (.int ib), .val (.int ic), .unset, .unset, .unset] [(.ref b1), (.ref b1)])) rfl (by rw [hml]; rfl) (Steps.refl _) (a := b1) (argsL := []) (rest := [(.ref b1)]) (lenOf own_pd2 rfl) rfl (by show 2 * 0 + _ ≤ _; exact Nat.le_of_eq rfl) (hb hby at_110) (fun _ _ => ⟨rfl, e119, (by decide : 1 + 1 ≤ _), (by decide : 2 + 0 ≤ _)⟩)
      dsimp only [Pt.U, Pt.locs, Pt.cells, Pt.slots] at X125 l125 y125 z125 ls125 hQ125
      subst l125 y125 z125
      obtain ⟨rfl, Nq125, Zq125, Mq125⟩ := hQ125
      have N125 := Fr.app N0 Nq125
      have st126 : own_Go p e below (T125.setTop (mkF m 113 #[.val (.int x0), .val (.int xpa), .val (.int xpb), .val (.int xpc), .val (.int xr1), .val (.int xr2), .val (.int n1), .val (.int n2), .val (.int (1 : Int32)), .val (.int (1 : Int32)), .val (.int r1), .val (.int r2), .val (.int n2), .val (.int ia), .val (.int ib), .val (.int ic), .unset, .unset, .unset] [(.ref b1)])) (s₁.setTop (entryFrame m #[(.int x0), (.int xpa), (.int xpb), (.int xpc), (.int xr1), (.int xr2)] maxLocals)) := fun t kt => st124 t (ls125.trans kt)
      have Eq125 := Mq125.1
      have st127 : own_Go p e below (T125.setTop (mkF m 119 #[.val (.int x0), .val (.int xpa), .val (.int xpb), .val (.int xpc), .val (.int xr1), .val (.int xr2), .val (.int n1), .val (.int n2), .val (.int (1 : Int32)), .val (.int (1 : Int32)), .val (.int r1), .val (.int r2), .val (.int n2), .val (.int ia), .val (.int ib), .val (.int ic), .val (.ref b1), .unset, .unset] [(.int n1), (.ref b1)])) (s₁.setTop (entryFrame m #[(.int x0), (.int xpa), (.int xpb), (.int xpc), (.int xr1), (.int xr2)] maxLocals)) := fun t kt => st126 t (by
        show Steps p.tables e below (T125.setTop (mkF m 113 #[.val (.int x0), .val (.int xpa), .val (.int xpb), .val (.int xpc), .val (.int xr1), .val (.int xr2), .val (.int n1), .val (.int n2), .val (.int (1 : Int32)), .val (.int (1 : Int32)), .val (.int r1), .val (.int r2), .val (.int n2), .val (.int ia), .val (.int ib), .val (.int ic), .unset, .unset, .unset] [(.ref b1)])) _
        refine XS.astore X125.here hx rfl (hb hby at_113) rfl rfl (l' := #[.val (.int x0), .val (.int xpa), .val (.int xpb), .val (.int xpc), .val (.int xr1), .val (.int xr2), .val (.int n1), .val (.int n2), .val (.int (1 : Int32)), .val (.int (1 : Int32)), .val (.int r1), .val (.int r2), .val (.int n2), .val (.int ia), .val (.int ib), .val (.int ic), .val (.ref b1), .unset, .unset]) rfl ?_
        show Steps p.tables e below (T125.setTop (mkF m 115 #[.val (.int x0), .val (.int xpa), .val (.int xpb), .val (.int xpc), .val (.int xr1), .val (.int xr2), .val (.int n1), .val (.int n2), .val (.int (1 : Int32)), .val (.int (1 : Int32)), .val (.int r1), .val (.int r2), .val (.int n2), .val (.int ia), .val (.int ib), .val (.int ic), .val (.ref b1), .unset, .unset] [])) _
        refine XS.aload X125.here hx rfl (hb hby at_115) rfl rfl ?_
        show Steps p.tables e below (T125.setTop (mkF m 117 #[.val (.int x0), .val (.int xpa), .val (.int xpb), .val (.int xpc), .val (.int xr1), .val (.int xr2), .val (.int n1), .val (.int n2), .val (.int (1 : Int32)), .val (.int (1 : Int32)), .val (.int r1), .val (.int r2), .val (.int n2), .val (.int ia), .val (.int ib), .val (.int ic), .val (.ref b1), .unset, .unset] [(.ref b1)])) _
        refine XS.iload X125.here hx rfl (hb hby at_117) rfl ?_
        show Steps p.tables e below (T125.setTop (mkF m 119 #[.val (.int x0), .val (.int xpa), .val (.int xpb), .val (.int xpc), .val (.int xr1), .val (.int xr2), .val (.int n1), .val (.int n2), .val (.int (1 : Int32)), .val (.int (1 : Int32)), .val (.int r1), .val (.int r2), .val (.int n2), .val (.int ia), .val (.int ib), .val (.int ic), .val (.ref b1), .unset, .unset] [(.int n1), (.ref b1)])) _
        exact kt)
      obtain ⟨cq128, kq128, q128a, q128b, q128c⟩ := isOf hZ rfl Eq125
      obtain ⟨_, _, ⟨T128, L128, k128, n128⟩, -, X128, ⟨Lc128, hQ128, l128, y128, z128⟩, ls128⟩ := X125.virtualBack hx (y := (⟨"com/example/saturation/saturation/WalkMemo", "start", "(I)V"⟩ : MethodName)) (z := (⟨"com/example/saturation/saturation/WalkMemo", "start", "(I)V"⟩ : MethodName)) hown (mvT hZ (hw _ (List.mem_of_getElem? (i := 13) rfl))) (mvT hZ (hw _ (List.mem_of_getElem? (i := 14) rfl))) (notFace_of_selects (args := #[]) (mvT hZ (hw _ (List.mem_of_getElem? (i := 16) rfl)))) (mvT hZ (hw _ (List.mem_of_getElem? (i := 16) rfl))) (mvT hZ (hw _ (List.mem_of_getElem? (i := 15) rfl))) (by decide) (backOf (W := 0) (rm_start l Z a0 hw [] b1 n1 ((0 : Int32)) 0 ((fun _ => (0 : Int64))) N1 T125.heap n0 Zq125 Mq125 hnn1 hN1 (by omega) (by omega) (by omega) (by decide)) hZ (hw _ (List.mem_of_getElem? (i := 17) rfl)) (hw _ (List.mem_of_getElem? (i := 3) rfl)) (by decide) (by decide)) q128a q128c (g := (mkF m 119 #[.val (.int x0), .val (.int xpa), .val (.int xpb), .val (.int xpc), .val (.int xr1), .val (.int xr2), .val (.int n1), .val (.int n2), .val (.int (1 : Int32)), .val (.int (1 : Int32)), .val (.int r1), .val (.int r2), .val (.int n2), .val (.int ia), .val (.int ib), .val (.int ic), .val (.ref b1), .unset, .unset] [(.int n1), (.ref b1)])) rfl (by rw [hml]; rfl) (Steps.refl _) (argsL := [(.int n1)]) (rest := []) (lenOf own_pd3 rfl) rfl (by show 2 * 0 + _ ≤ _; exact Nat.le_of_eq rfl) (hb hby at_119) (fun _ _ => ⟨rfl, rfl, (by decide : 2 + 1 ≤ _), (by decide : 2 + 16 ≤ _)⟩)
      dsimp only [Pt.U, Pt.locs, Pt.cells, Pt.slots] at X128 l128 y128 z128 ls128 hQ128
      subst l128 y128 z128
      obtain ⟨rfl, Nq128, Zq128, Mq128⟩ := hQ128
      have N128 := Fr.app N125 Nq128
      have st129 : own_Go p e below (T128.setTop (mkF m 122 #[.val (.int x0), .val (.int xpa), .val (.int xpb), .val (.int xpc), .val (.int xr1), .val (.int xr2), .val (.int n1), .val (.int n2), .val (.int (1 : Int32)), .val (.int (1 : Int32)), .val (.int r1), .val (.int r2), .val (.int n2), .val (.int ia), .val (.int ib), .val (.int ic), .val (.ref b1), .unset, .unset] [])) (s₁.setTop (entryFrame m #[(.int x0), (.int xpa), (.int xpb), (.int xpc), (.int xr1), (.int xr2)] maxLocals)) := fun t kt => st127 t (ls128.trans kt)
      have Eq128 := Mq128.1
      have m130 := own_M.to (st' := (1 : Int32)) (n' := N1) (f' := (fun _ => (0 : Int64))) Mq128 (by decide) (by unfold own_nl; rw [if_pos (by omega)]; omega) (fun q hq => by simp)
      have st131 : own_Go p e below (T128.setTop (mkF m 128 #[.val (.int x0), .val (.int xpa), .val (.int xpb), .val (.int xpc), .val (.int xr1), .val (.int xr2), .val (.int n1), .val (.int n2), .val (.int (1 : Int32)), .val (.int (1 : Int32)), .val (.int r1), .val (.int r2), .val (.int n2), .val (.int ia), .val (.int ib), .val (.int ic), .val (.ref b1), .unset, .unset] [(.int r1), (.int ia), (.ref b1)])) (s₁.setTop (entryFrame m #[(.int x0), (.int xpa), (.int xpb), (.int xpc), (.int xr1), (.int xr2)] maxLocals)) := fun t kt => st129 t (by
        show Steps p.tables e below (T128.setTop (mkF m 122 #[.val (.int x0), .val (.int xpa), .val (.int xpb), .val (.int xpc), .val (.int xr1), .val (.int xr2), .val (.int n1), .val (.int n2), .val (.int (1 : Int32)), .val (.int (1 : Int32)), .val (.int r1), .val (.int r2), .val (.int n2), .val (.int ia), .val (.int ib), .val (.int ic), .val (.ref b1), .unset, .unset] [])) _
        refine XS.aload X128.here hx rfl (hb hby at_122) rfl rfl ?_
        show Steps p.tables e below (T128.setTop (mkF m 124 #[.val (.int x0), .val (.int xpa), .val (.int xpb), .val (.int xpc), .val (.int xr1), .val (.int xr2), .val (.int n1), .val (.int n2), .val (.int (1 : Int32)), .val (.int (1 : Int32)), .val (.int r1), .val (.int r2), .val (.int n2), .val (.int ia), .val (.int ib), .val (.int ic), .val (.ref b1), .unset, .unset] [(.ref b1)])) _
        refine XS.iload X128.here hx rfl (hb hby at_124) rfl ?_
        show Steps p.tables e below (T128.setTop (mkF m 126 #[.val (.int x0), .val (.int xpa), .val (.int xpb), .val (.int xpc), .val (.int xr1), .val (.int xr2), .val (.int n1), .val (.int n2), .val (.int (1 : Int32)), .val (.int (1 : Int32)), .val (.int r1), .val (.int r2), .val (.int n2), .val (.int ia), .val (.int ib), .val (.int ic), .val (.ref b1), .unset, .unset] [(.int ia), (.ref b1)])) _
        refine XS.iload X128.here hx rfl (hb hby at_126) rfl ?_
        show Steps p.tables e below (T128.setTop (mkF m 128 #[.val (.int x0), .val (.int xpa), .val (.int xpb), .val (.int xpc), .val (.int xr1), .val (.int xr2), .val (.int n1), .val (.int n2), .val (.int (1 : Int32)), .val (.int (1 : Int32)), .val (.int r1), .val (.int r2), .val (.int n2), .val (.int ia), .val (.int ib), .val (.int ic), .val (.ref b1), .unset, .unset] [(.int r1), (.int ia), (.ref b1)])) _
        exact kt)
      obtain ⟨cq132, kq132, q132a, q132b, q132c⟩ := isOf hZ rfl Eq128
      obtain ⟨_, _, ⟨T132, L132, k132, n132⟩, -, X132, ⟨Lc132, hQ132, l132, y132, z132⟩, ls132⟩ := X128.virtualBack hx (y := (⟨"com/example/saturation/saturation/WalkMemo", "put", "(II)V"⟩ : MethodName)) (z := (⟨"com/example/saturation/saturation/WalkMemo", "put", "(II)V"⟩ : MethodName)) hown (mvT hZ (hw _ (List.mem_of_getElem? (i := 35) rfl))) (mvT hZ (hw _ (List.mem_of_getElem? (i := 36) rfl))) (notFace_of_selects (args := #[]) (mvT hZ (hw _ (List.mem_of_getElem? (i := 38) rfl)))) (mvT hZ (hw _ (List.mem_of_getElem? (i := 38) rfl))) (mvT hZ (hw _ (List.mem_of_getElem? (i := 37) rfl))) (by decide) (backOf (W := 0) (rm_put l Z a0 hw [] b1 ia r1 ((1 : Int32)) N1 ((fun _ => (0 : Int64))) i T128.heap n0 Zq128 m130 i_ia.1 hk_ia i_ia.2) hZ (hw _ (List.mem_of_getElem? (i := 39) rfl)) (hw _ (List.mem_of_getElem? (i := 3) rfl)) (by decide) (by decide)) q132a q132c (g := (mkF m 128 #[.val (.int x0), .val (.int xpa), .val (.int xpb), .val (.int xpc), .val (.int xr1), .val (.int xr2), .val (.int n1), .val (.int n2), .val (.int (1 : Int32)), .val (.int (1 : Int32)), .val (.int r1), .val (.int r2), .val (.int n2), .val (.int ia), .val (.int ib), .val (.int ic), .val (.ref b1), .unset, .unset] [(.int r1), (.int ia), (.ref b1)])) rfl (by rw [hml]; rfl) (Steps.refl _) (argsL := [(.int ia), (.int r1)]) (rest := []) (lenOf own_pd4 rfl) rfl (by show 2 * 0 + _ ≤ _; exact Nat.le_of_eq rfl) (hb hby at_128) (fun _ _ => ⟨rfl, rfl, (by decide : 3 + 0 ≤ _), (by decide : 18 + 0 ≤ _)⟩)
      dsimp only [Pt.U, Pt.locs, Pt.cells, Pt.slots] at X132 l132 y132 z132 ls132 hQ132
      subst l132 y132 z132
      obtain ⟨rfl, Nq132, Zq132, Mq132⟩ := hQ132
      have N132 := Fr.app N128 Nq132
      have st133 : own_Go p e below (T132.setTop (mkF m 131 #[.val (.int x0), .val (.int xpa), .val (.int xpb), .val (.int xpc), .val (.int xr1), .val (.int xr2), .val (.int n1), .val (.int n2), .val (.int (1 : Int32)), .val (.int (1 : Int32)), .val (.int r1), .val (.int r2), .val (.int n2), .val (.int ia), .val (.int ib), .val (.int ic), .val (.ref b1), .unset, .unset] [])) (s₁.setTop (entryFrame m #[(.int x0), (.int xpa), (.int xpb), (.int xpc), (.int xr1), (.int xr2)] maxLocals)) := fun t kt => st131 t (ls132.trans kt)
      have Eq132 := Mq132.1
      have m134 := own_M.to (st' := (1 : Int32)) (n' := N1) (f' := (fun q => if q = i then own_enc 1 r1 else 0)) Mq132 (rfl) (rfl) (fun _ _ => rfl)
      have hc135 : ¬ ((1 : Int32) = (0 : Int32)) := by decide
      have st136 : own_Go p e below (T132.setTop (mkF m 140 #[.val (.int x0), .val (.int xpa), .val (.int xpb), .val (.int xpc), .val (.int xr1), .val (.int xr2), .val (.int n1), .val (.int n2), .val (.int (1 : Int32)), .val (.int (1 : Int32)), .val (.int r1), .val (.int r2), .val (.int n2), .val (.int ia), .val (.int ib), .val (.int ic), .val (.ref b1), .unset, .unset] [(.int n2), (.ref b1)])) (s₁.setTop (entryFrame m #[(.int x0), (.int xpa), (.int xpb), (.int xpc), (.int xr1), (.int xr2)] maxLocals)) := fun t kt => st133 t (by
        show Steps p.tables e below (T132.setTop (mkF m 131 #[.val (.int x0), .val (.int xpa), .val (.int xpb), .val (.int xpc), .val (.int xr1), .val (.int xr2), .val (.int n1), .val (.int n2), .val (.int (1 : Int32)), .val (.int (1 : Int32)), .val (.int r1), .val (.int r2), .val (.int n2), .val (.int ia), .val (.int ib), .val (.int ic), .val (.ref b1), .unset, .unset] [])) _
        refine XS.iload X132.here hx rfl (hb hby at_131) rfl ?_
        show Steps p.tables e below (T132.setTop (mkF m 133 #[.val (.int x0), .val (.int xpa), .val (.int xpb), .val (.int xpc), .val (.int xr1), .val (.int xr2), .val (.int n1), .val (.int n2), .val (.int (1 : Int32)), .val (.int (1 : Int32)), .val (.int r1), .val (.int r2), .val (.int n2), .val (.int ia), .val (.int ib), .val (.int ic), .val (.ref b1), .unset, .unset] [(.int (1 : Int32))])) _
        refine XS.ifNo X132.here hx rfl (hb hby at_133) rfl ((if0 _ _).trans (feq hc135).1) ?_
        show Steps p.tables e below (T132.setTop (mkF m 136 #[.val (.int x0), .val (.int xpa), .val (.int xpb), .val (.int xpc), .val (.int xr1), .val (.int xr2), .val (.int n1), .val (.int n2), .val (.int (1 : Int32)), .val (.int (1 : Int32)), .val (.int r1), .val (.int r2), .val (.int n2), .val (.int ia), .val (.int ib), .val (.int ic), .val (.ref b1), .unset, .unset] [])) _
        refine XS.aload X132.here hx rfl (hb hby at_136) rfl rfl ?_
        show Steps p.tables e below (T132.setTop (mkF m 138 #[.val (.int x0), .val (.int xpa), .val (.int xpb), .val (.int xpc), .val (.int xr1), .val (.int xr2), .val (.int n1), .val (.int n2), .val (.int (1 : Int32)), .val (.int (1 : Int32)), .val (.int r1), .val (.int r2), .val (.int n2), .val (.int ia), .val (.int ib), .val (.int ic), .val (.ref b1), .unset, .unset] [(.ref b1)])) _
        refine XS.iload X132.here hx rfl (hb hby at_138) rfl ?_
        show Steps p.tables e below (T132.setTop (mkF m 140 #[.val (.int x0), .val (.int xpa), .val (.int xpb), .val (.int xpc), .val (.int xr1), .val (.int xr2), .val (.int n1), .val (.int n2), .val (.int (1 : Int32)), .val (.int (1 : Int32)), .val (.int r1), .val (.int r2), .val (.int n2), .val (.int ia), .val (.int ib), .val (.int ic), .val (.ref b1), .unset, .unset] [(.int n2), (.ref b1)])) _
        exact kt)
      obtain ⟨cq137, kq137, q137a, q137b, q137c⟩ := isOf hZ rfl Eq132
      obtain ⟨_, _, ⟨T137, L137, k137, n137⟩, -, X137, ⟨Lc137, hQ137, l137, y137, z137⟩, ls137⟩ := X132.virtualBack hx (y := (⟨"com/example/saturation/saturation/WalkMemo", "start", "(I)V"⟩ : MethodName)) (z := (⟨"com/example/saturation/saturation/WalkMemo", "start", "(I)V"⟩ : MethodName)) hown (mvT hZ (hw _ (List.mem_of_getElem? (i := 13) rfl))) (mvT hZ (hw _ (List.mem_of_getElem? (i := 14) rfl))) (notFace_of_selects (args := #[]) (mvT hZ (hw _ (List.mem_of_getElem? (i := 16) rfl)))) (mvT hZ (hw _ (List.mem_of_getElem? (i := 16) rfl))) (mvT hZ (hw _ (List.mem_of_getElem? (i := 15) rfl))) (by decide) (backOf (W := 0) (rm_start l Z a0 hw [] b1 n2 ((1 : Int32)) N1 ((fun q => if q = i then own_enc 1 r1 else 0)) N2 T132.heap n0 Zq132 m134 hnn2 hN2 (by omega) (by omega) (by omega) (by decide)) hZ (hw _ (List.mem_of_getElem? (i := 17) rfl)) (hw _ (List.mem_of_getElem? (i := 3) rfl)) (by decide) (by decide)) q137a q137c (g := (mkF m 140 #[.val (.int x0), .val (.int xpa), .val (.int xpb), .val (.int xpc), .val (.int xr1), .val (.int xr2), .val (.int n1), .val (.int n2), .val (.int (1 : Int32)), .val (.int (1 : Int32)), .val (.int r1), .val (.int r2), .val (.int n2), .val (.int ia), .val (.int ib), .val (.int ic), .val (.ref b1), .unset, .unset] [(.int n2), (.ref b1)])) rfl (by rw [hml]; rfl) (Steps.refl _) (argsL := [(.int n2)]) (rest := []) (lenOf own_pd3 rfl) rfl (by show 2 * 0 + _ ≤ _; exact Nat.le_of_eq rfl) (hb hby at_140) (fun _ _ => ⟨rfl, rfl, (by decide : 3 + 1 ≤ _), (by decide : 18 + 16 ≤ _)⟩)
      dsimp only [Pt.U, Pt.locs, Pt.cells, Pt.slots] at X137 l137 y137 z137 ls137 hQ137
      subst l137 y137 z137
      obtain ⟨rfl, Nq137, Zq137, Mq137⟩ := hQ137
      have N137 := Fr.app N132 Nq137
      have st138 : own_Go p e below (T137.setTop (mkF m 143 #[.val (.int x0), .val (.int xpa), .val (.int xpb), .val (.int xpc), .val (.int xr1), .val (.int xr2), .val (.int n1), .val (.int n2), .val (.int (1 : Int32)), .val (.int (1 : Int32)), .val (.int r1), .val (.int r2), .val (.int n2), .val (.int ia), .val (.int ib), .val (.int ic), .val (.ref b1), .unset, .unset] [])) (s₁.setTop (entryFrame m #[(.int x0), (.int xpa), (.int xpb), (.int xpc), (.int xr1), (.int xr2)] maxLocals)) := fun t kt => st136 t (ls137.trans kt)
      have Eq137 := Mq137.1
      have m139 := own_M.to (st' := (2 : Int32)) (n' := (own_nl N1 N2)) (f' := (fun q => if q < N1 then (if q = i then own_enc 1 r1 else 0) else 0)) Mq137 (by decide) (rfl) (fun _ _ => rfl)
      have hge := own_nl_ge N1 N2
      have hc140 : ¬ ((1 : Int32) = (0 : Int32)) := by decide
      have st141 : own_Go p e below (T137.setTop (mkF m 154 #[.val (.int x0), .val (.int xpa), .val (.int xpb), .val (.int xpc), .val (.int xr1), .val (.int xr2), .val (.int n1), .val (.int n2), .val (.int (1 : Int32)), .val (.int (1 : Int32)), .val (.int r1), .val (.int r2), .val (.int n2), .val (.int ia), .val (.int ib), .val (.int ic), .val (.ref b1), .unset, .unset] [(.int r2), (.int ib), (.ref b1)])) (s₁.setTop (entryFrame m #[(.int x0), (.int xpa), (.int xpb), (.int xpc), (.int xr1), (.int xr2)] maxLocals)) := fun t kt => st138 t (by
        show Steps p.tables e below (T137.setTop (mkF m 143 #[.val (.int x0), .val (.int xpa), .val (.int xpb), .val (.int xpc), .val (.int xr1), .val (.int xr2), .val (.int n1), .val (.int n2), .val (.int (1 : Int32)), .val (.int (1 : Int32)), .val (.int r1), .val (.int r2), .val (.int n2), .val (.int ia), .val (.int ib), .val (.int ic), .val (.ref b1), .unset, .unset] [])) _
        refine XS.iload X137.here hx rfl (hb hby at_143) rfl ?_
        show Steps p.tables e below (T137.setTop (mkF m 145 #[.val (.int x0), .val (.int xpa), .val (.int xpb), .val (.int xpc), .val (.int xr1), .val (.int xr2), .val (.int n1), .val (.int n2), .val (.int (1 : Int32)), .val (.int (1 : Int32)), .val (.int r1), .val (.int r2), .val (.int n2), .val (.int ia), .val (.int ib), .val (.int ic), .val (.ref b1), .unset, .unset] [(.int (1 : Int32))])) _
        refine XS.ifNo X137.here hx rfl (hb hby at_145) rfl ((if0 _ _).trans (feq hc140).1) ?_
        show Steps p.tables e below (T137.setTop (mkF m 148 #[.val (.int x0), .val (.int xpa), .val (.int xpb), .val (.int xpc), .val (.int xr1), .val (.int xr2), .val (.int n1), .val (.int n2), .val (.int (1 : Int32)), .val (.int (1 : Int32)), .val (.int r1), .val (.int r2), .val (.int n2), .val (.int ia), .val (.int ib), .val (.int ic), .val (.ref b1), .unset, .unset] [])) _
        refine XS.aload X137.here hx rfl (hb hby at_148) rfl rfl ?_
        show Steps p.tables e below (T137.setTop (mkF m 150 #[.val (.int x0), .val (.int xpa), .val (.int xpb), .val (.int xpc), .val (.int xr1), .val (.int xr2), .val (.int n1), .val (.int n2), .val (.int (1 : Int32)), .val (.int (1 : Int32)), .val (.int r1), .val (.int r2), .val (.int n2), .val (.int ia), .val (.int ib), .val (.int ic), .val (.ref b1), .unset, .unset] [(.ref b1)])) _
        refine XS.iload X137.here hx rfl (hb hby at_150) rfl ?_
        show Steps p.tables e below (T137.setTop (mkF m 152 #[.val (.int x0), .val (.int xpa), .val (.int xpb), .val (.int xpc), .val (.int xr1), .val (.int xr2), .val (.int n1), .val (.int n2), .val (.int (1 : Int32)), .val (.int (1 : Int32)), .val (.int r1), .val (.int r2), .val (.int n2), .val (.int ia), .val (.int ib), .val (.int ic), .val (.ref b1), .unset, .unset] [(.int ib), (.ref b1)])) _
        refine XS.iload X137.here hx rfl (hb hby at_152) rfl ?_
        show Steps p.tables e below (T137.setTop (mkF m 154 #[.val (.int x0), .val (.int xpa), .val (.int xpb), .val (.int xpc), .val (.int xr1), .val (.int xr2), .val (.int n1), .val (.int n2), .val (.int (1 : Int32)), .val (.int (1 : Int32)), .val (.int r1), .val (.int r2), .val (.int n2), .val (.int ia), .val (.int ib), .val (.int ic), .val (.ref b1), .unset, .unset] [(.int r2), (.int ib), (.ref b1)])) _
        exact kt)
      obtain ⟨cq142, kq142, q142a, q142b, q142c⟩ := isOf hZ rfl Eq137
      obtain ⟨_, _, ⟨T142, L142, k142, n142⟩, -, X142, ⟨Lc142, hQ142, l142, y142, z142⟩, ls142⟩ := X137.virtualBack hx (y := (⟨"com/example/saturation/saturation/WalkMemo", "put", "(II)V"⟩ : MethodName)) (z := (⟨"com/example/saturation/saturation/WalkMemo", "put", "(II)V"⟩ : MethodName)) hown (mvT hZ (hw _ (List.mem_of_getElem? (i := 35) rfl))) (mvT hZ (hw _ (List.mem_of_getElem? (i := 36) rfl))) (notFace_of_selects (args := #[]) (mvT hZ (hw _ (List.mem_of_getElem? (i := 38) rfl)))) (mvT hZ (hw _ (List.mem_of_getElem? (i := 38) rfl))) (mvT hZ (hw _ (List.mem_of_getElem? (i := 37) rfl))) (by decide) (backOf (W := 0) (rm_put l Z a0 hw [] b1 ib r2 ((2 : Int32)) ((own_nl N1 N2)) ((fun q => if q < N1 then (if q = i then own_enc 1 r1 else 0) else 0)) j T137.heap n0 Zq137 m139 i_ib.1 hk_ib (by have := i_ib.2; omega)) hZ (hw _ (List.mem_of_getElem? (i := 39) rfl)) (hw _ (List.mem_of_getElem? (i := 3) rfl)) (by decide) (by decide)) q142a q142c (g := (mkF m 154 #[.val (.int x0), .val (.int xpa), .val (.int xpb), .val (.int xpc), .val (.int xr1), .val (.int xr2), .val (.int n1), .val (.int n2), .val (.int (1 : Int32)), .val (.int (1 : Int32)), .val (.int r1), .val (.int r2), .val (.int n2), .val (.int ia), .val (.int ib), .val (.int ic), .val (.ref b1), .unset, .unset] [(.int r2), (.int ib), (.ref b1)])) rfl (by rw [hml]; rfl) (Steps.refl _) (argsL := [(.int ib), (.int r2)]) (rest := []) (lenOf own_pd4 rfl) rfl (by show 2 * 0 + _ ≤ _; exact Nat.le_of_eq rfl) (hb hby at_154) (fun _ _ => ⟨rfl, rfl, (by decide : 4 + 0 ≤ _), (by decide : 34 + 0 ≤ _)⟩)
      dsimp only [Pt.U, Pt.locs, Pt.cells, Pt.slots] at X142 l142 y142 z142 ls142 hQ142
      subst l142 y142 z142
      obtain ⟨rfl, Nq142, Zq142, Mq142⟩ := hQ142
      have N142 := Fr.app N137 Nq142
      have st143 : own_Go p e below (T142.setTop (mkF m 157 #[.val (.int x0), .val (.int xpa), .val (.int xpb), .val (.int xpc), .val (.int xr1), .val (.int xr2), .val (.int n1), .val (.int n2), .val (.int (1 : Int32)), .val (.int (1 : Int32)), .val (.int r1), .val (.int r2), .val (.int n2), .val (.int ia), .val (.int ib), .val (.int ic), .val (.ref b1), .unset, .unset] [])) (s₁.setTop (entryFrame m #[(.int x0), (.int xpa), (.int xpb), (.int xpc), (.int xr1), (.int xr2)] maxLocals)) := fun t kt => st141 t (ls142.trans kt)
      have Eq142 := Mq142.1
      have m144 := own_M.to (st' := (2 : Int32)) (n' := (own_nl N1 N2)) (f' := (fun q => if q = j then own_enc 2 r2 else if q < N1 then (if q = i then own_enc 1 r1 else 0) else 0)) Mq142 (rfl) (rfl) (fun _ _ => rfl)
      have st145 : own_Go p e below (T142.setTop (mkF m 161 #[.val (.int x0), .val (.int xpa), .val (.int xpb), .val (.int xpc), .val (.int xr1), .val (.int xr2), .val (.int n1), .val (.int n2), .val (.int (1 : Int32)), .val (.int (1 : Int32)), .val (.int r1), .val (.int r2), .val (.int n2), .val (.int ia), .val (.int ib), .val (.int ic), .val (.ref b1), .unset, .unset] [(.int ic), (.ref b1)])) (s₁.setTop (entryFrame m #[(.int x0), (.int xpa), (.int xpb), (.int xpc), (.int xr1), (.int xr2)] maxLocals)) := fun t kt => st143 t (by
        show Steps p.tables e below (T142.setTop (mkF m 157 #[.val (.int x0), .val (.int xpa), .val (.int xpb), .val (.int xpc), .val (.int xr1), .val (.int xr2), .val (.int n1), .val (.int n2), .val (.int (1 : Int32)), .val (.int (1 : Int32)), .val (.int r1), .val (.int r2), .val (.int n2), .val (.int ia), .val (.int ib), .val (.int ic), .val (.ref b1), .unset, .unset] [])) _
        refine XS.aload X142.here hx rfl (hb hby at_157) rfl rfl ?_
        show Steps p.tables e below (T142.setTop (mkF m 159 #[.val (.int x0), .val (.int xpa), .val (.int xpb), .val (.int xpc), .val (.int xr1), .val (.int xr2), .val (.int n1), .val (.int n2), .val (.int (1 : Int32)), .val (.int (1 : Int32)), .val (.int r1), .val (.int r2), .val (.int n2), .val (.int ia), .val (.int ib), .val (.int ic), .val (.ref b1), .unset, .unset] [(.ref b1)])) _
        refine XS.iload X142.here hx rfl (hb hby at_159) rfl ?_
        show Steps p.tables e below (T142.setTop (mkF m 161 #[.val (.int x0), .val (.int xpa), .val (.int xpb), .val (.int xpc), .val (.int xr1), .val (.int xr2), .val (.int n1), .val (.int n2), .val (.int (1 : Int32)), .val (.int (1 : Int32)), .val (.int r1), .val (.int r2), .val (.int n2), .val (.int ia), .val (.int ib), .val (.int ic), .val (.ref b1), .unset, .unset] [(.int ic), (.ref b1)])) _
        exact kt)
      obtain ⟨cq146, kq146, q146a, q146b, q146c⟩ := isOf hZ rfl Eq142
      obtain ⟨_, _, ⟨T146, L146, k146, n146⟩, -, X146, ⟨Lc146, hQ146, l146, y146, z146⟩, ls146⟩ := X142.virtualBack hx (y := (⟨"com/example/saturation/saturation/WalkMemo", "get", "(I)I"⟩ : MethodName)) (z := (⟨"com/example/saturation/saturation/WalkMemo", "get", "(I)I"⟩ : MethodName)) hown (mvT hZ (hw _ (List.mem_of_getElem? (i := 40) rfl))) (mvT hZ (hw _ (List.mem_of_getElem? (i := 41) rfl))) (notFace_of_selects (args := #[]) (mvT hZ (hw _ (List.mem_of_getElem? (i := 43) rfl)))) (mvT hZ (hw _ (List.mem_of_getElem? (i := 43) rfl))) (mvT hZ (hw _ (List.mem_of_getElem? (i := 42) rfl))) (by decide) (backOf (W := 0) (rm_get l Z a0 hw [] b1 ic ((2 : Int32)) ((own_nl N1 N2)) ((fun q => if q = j then own_enc 2 r2 else if q < N1 then (if q = i then own_enc 1 r1 else 0) else 0)) k T142.heap n0 Zq142 m144 i_ic.1 hk_ic (by have := i_ic.2; omega)) hZ (hw _ (List.mem_of_getElem? (i := 44) rfl)) (hw _ (List.mem_of_getElem? (i := 3) rfl)) (by decide) (by decide)) q146a q146c (g := (mkF m 161 #[.val (.int x0), .val (.int xpa), .val (.int xpb), .val (.int xpc), .val (.int xr1), .val (.int xr2), .val (.int n1), .val (.int n2), .val (.int (1 : Int32)), .val (.int (1 : Int32)), .val (.int r1), .val (.int r2), .val (.int n2), .val (.int ia), .val (.int ib), .val (.int ic), .val (.ref b1), .unset, .unset] [(.int ic), (.ref b1)])) rfl (by rw [hml]; rfl) (Steps.refl _) (argsL := [(.int ic)]) (rest := []) (lenOf own_pd5 rfl) rfl (by show 2 * 0 + _ ≤ _; exact Nat.le_of_eq rfl) (hb hby at_161) (fun _ _ => ⟨rfl, rfl, (by decide : 4 + 0 ≤ _), (by decide : 34 + 0 ≤ _)⟩)
      dsimp only [Pt.U, Pt.locs, Pt.cells, Pt.slots] at X146 l146 y146 z146 ls146 hQ146
      subst l146 y146 z146
      obtain ⟨rfl, Nq146, eq146⟩ := hQ146
      have N146 := Fr.app N142 Nq146
      have st147 : own_Go p e below (T146.setTop (mkF m 164 #[.val (.int x0), .val (.int xpa), .val (.int xpb), .val (.int xpc), .val (.int xr1), .val (.int xr2), .val (.int n1), .val (.int n2), .val (.int (1 : Int32)), .val (.int (1 : Int32)), .val (.int r1), .val (.int r2), .val (.int n2), .val (.int ia), .val (.int ib), .val (.int ic), .val (.ref b1), .unset, .unset] [(.int (own_get (2 : Int32) ((fun q => if q = j then own_enc 2 r2 else if q < N1 then (if q = i then own_enc 1 r1 else 0) else 0) k)))])) (s₁.setTop (entryFrame m #[(.int x0), (.int xpa), (.int xpb), (.int xpc), (.int xr1), (.int xr2)] maxLocals)) := fun t kt => st145 t (ls146.trans kt)
      have st148 : own_Go p e below (T146.setTop (mkF m 170 #[.val (.int x0), .val (.int xpa), .val (.int xpb), .val (.int xpc), .val (.int xr1), .val (.int xr2), .val (.int n1), .val (.int n2), .val (.int (1 : Int32)), .val (.int (1 : Int32)), .val (.int r1), .val (.int r2), .val (.int n2), .val (.int ia), .val (.int ib), .val (.int ic), .val (.ref b1), .val (.int (own_get (2 : Int32) ((fun q => if q = j then own_enc 2 r2 else if q < N1 then (if q = i then own_enc 1 r1 else 0) else 0) k))), .unset] [(.int ia), (.ref b1)])) (s₁.setTop (entryFrame m #[(.int x0), (.int xpa), (.int xpb), (.int xpc), (.int xr1), (.int xr2)] maxLocals)) := fun t kt => st147 t (by
        show Steps p.tables e below (T146.setTop (mkF m 164 #[.val (.int x0), .val (.int xpa), .val (.int xpb), .val (.int xpc), .val (.int xr1), .val (.int xr2), .val (.int n1), .val (.int n2), .val (.int (1 : Int32)), .val (.int (1 : Int32)), .val (.int r1), .val (.int r2), .val (.int n2), .val (.int ia), .val (.int ib), .val (.int ic), .val (.ref b1), .unset, .unset] [(.int (own_get (2 : Int32) ((fun q => if q = j then own_enc 2 r2 else if q < N1 then (if q = i then own_enc 1 r1 else 0) else 0) k)))])) _
        refine XS.istore X146.here hx rfl (hb hby at_164) rfl (l' := #[.val (.int x0), .val (.int xpa), .val (.int xpb), .val (.int xpc), .val (.int xr1), .val (.int xr2), .val (.int n1), .val (.int n2), .val (.int (1 : Int32)), .val (.int (1 : Int32)), .val (.int r1), .val (.int r2), .val (.int n2), .val (.int ia), .val (.int ib), .val (.int ic), .val (.ref b1), .val (.int (own_get (2 : Int32) ((fun q => if q = j then own_enc 2 r2 else if q < N1 then (if q = i then own_enc 1 r1 else 0) else 0) k))), .unset]) rfl ?_
        show Steps p.tables e below (T146.setTop (mkF m 166 #[.val (.int x0), .val (.int xpa), .val (.int xpb), .val (.int xpc), .val (.int xr1), .val (.int xr2), .val (.int n1), .val (.int n2), .val (.int (1 : Int32)), .val (.int (1 : Int32)), .val (.int r1), .val (.int r2), .val (.int n2), .val (.int ia), .val (.int ib), .val (.int ic), .val (.ref b1), .val (.int (own_get (2 : Int32) ((fun q => if q = j then own_enc 2 r2 else if q < N1 then (if q = i then own_enc 1 r1 else 0) else 0) k))), .unset] [])) _
        refine XS.aload X146.here hx rfl (hb hby at_166) rfl rfl ?_
        show Steps p.tables e below (T146.setTop (mkF m 168 #[.val (.int x0), .val (.int xpa), .val (.int xpb), .val (.int xpc), .val (.int xr1), .val (.int xr2), .val (.int n1), .val (.int n2), .val (.int (1 : Int32)), .val (.int (1 : Int32)), .val (.int r1), .val (.int r2), .val (.int n2), .val (.int ia), .val (.int ib), .val (.int ic), .val (.ref b1), .val (.int (own_get (2 : Int32) ((fun q => if q = j then own_enc 2 r2 else if q < N1 then (if q = i then own_enc 1 r1 else 0) else 0) k))), .unset] [(.ref b1)])) _
        refine XS.iload X146.here hx rfl (hb hby at_168) rfl ?_
        show Steps p.tables e below (T146.setTop (mkF m 170 #[.val (.int x0), .val (.int xpa), .val (.int xpb), .val (.int xpc), .val (.int xr1), .val (.int xr2), .val (.int n1), .val (.int n2), .val (.int (1 : Int32)), .val (.int (1 : Int32)), .val (.int r1), .val (.int r2), .val (.int n2), .val (.int ia), .val (.int ib), .val (.int ic), .val (.ref b1), .val (.int (own_get (2 : Int32) ((fun q => if q = j then own_enc 2 r2 else if q < N1 then (if q = i then own_enc 1 r1 else 0) else 0) k))), .unset] [(.int ia), (.ref b1)])) _
        exact kt)
      obtain ⟨cq149, kq149, q149a, q149b, q149c⟩ := isOf hZ eq146 Eq142
      obtain ⟨_, _, ⟨T149, L149, k149, n149⟩, -, X149, ⟨Lc149, hQ149, l149, y149, z149⟩, ls149⟩ := X146.virtualBack hx (y := (⟨"com/example/saturation/saturation/WalkMemo", "get", "(I)I"⟩ : MethodName)) (z := (⟨"com/example/saturation/saturation/WalkMemo", "get", "(I)I"⟩ : MethodName)) hown (mvT hZ (hw _ (List.mem_of_getElem? (i := 40) rfl))) (mvT hZ (hw _ (List.mem_of_getElem? (i := 41) rfl))) (notFace_of_selects (args := #[]) (mvT hZ (hw _ (List.mem_of_getElem? (i := 43) rfl)))) (mvT hZ (hw _ (List.mem_of_getElem? (i := 43) rfl))) (mvT hZ (hw _ (List.mem_of_getElem? (i := 42) rfl))) (by decide) (backOf (W := 0) (rm_get l Z a0 hw [] b1 ia ((2 : Int32)) ((own_nl N1 N2)) ((fun q => if q = j then own_enc 2 r2 else if q < N1 then (if q = i then own_enc 1 r1 else 0) else 0)) i T142.heap n0 Zq142 m144 i_ia.1 hk_ia (by have := i_ia.2; omega)) hZ (hw _ (List.mem_of_getElem? (i := 44) rfl)) (hw _ (List.mem_of_getElem? (i := 3) rfl)) (by decide) (by decide)) q149a q149c (g := (mkF m 170 #[.val (.int x0), .val (.int xpa), .val (.int xpb), .val (.int xpc), .val (.int xr1), .val (.int xr2), .val (.int n1), .val (.int n2), .val (.int (1 : Int32)), .val (.int (1 : Int32)), .val (.int r1), .val (.int r2), .val (.int n2), .val (.int ia), .val (.int ib), .val (.int ic), .val (.ref b1), .val (.int (own_get (2 : Int32) ((fun q => if q = j then own_enc 2 r2 else if q < N1 then (if q = i then own_enc 1 r1 else 0) else 0) k))), .unset] [(.int ia), (.ref b1)])) rfl (by rw [hml]; rfl) (Steps.refl _) (argsL := [(.int ia)]) (rest := []) (lenOf own_pd5 rfl) rfl (by show 2 * 0 + _ ≤ _; exact Nat.le_of_eq rfl) (hb hby at_170) (fun _ _ => ⟨rfl, eq146, (by decide : 4 + 0 ≤ _), (by decide : 34 + 0 ≤ _)⟩)
      dsimp only [Pt.U, Pt.locs, Pt.cells, Pt.slots] at X149 l149 y149 z149 ls149 hQ149
      subst l149 y149 z149
      obtain ⟨rfl, Nq149, eq149⟩ := hQ149
      have N149 := Fr.app N146 Nq149
      have st150 : own_Go p e below (T149.setTop (mkF m 173 #[.val (.int x0), .val (.int xpa), .val (.int xpb), .val (.int xpc), .val (.int xr1), .val (.int xr2), .val (.int n1), .val (.int n2), .val (.int (1 : Int32)), .val (.int (1 : Int32)), .val (.int r1), .val (.int r2), .val (.int n2), .val (.int ia), .val (.int ib), .val (.int ic), .val (.ref b1), .val (.int (own_get (2 : Int32) ((fun q => if q = j then own_enc 2 r2 else if q < N1 then (if q = i then own_enc 1 r1 else 0) else 0) k))), .unset] [(.int (own_get (2 : Int32) ((fun q => if q = j then own_enc 2 r2 else if q < N1 then (if q = i then own_enc 1 r1 else 0) else 0) i)))])) (s₁.setTop (entryFrame m #[(.int x0), (.int xpa), (.int xpb), (.int xpc), (.int xr1), (.int xr2)] maxLocals)) := fun t kt => st148 t (ls149.trans kt)
      have st151 : own_Go p e below (T149.setTop (mkF m 191 #[.val (.int x0), .val (.int xpa), .val (.int xpb), .val (.int xpc), .val (.int xr1), .val (.int xr2), .val (.int n1), .val (.int n2), .val (.int (1 : Int32)), .val (.int (1 : Int32)), .val (.int r1), .val (.int r2), .val (.int n2), .val (.int ia), .val (.int ib), .val (.int ic), .val (.ref b1), .val (.int (own_get (2 : Int32) ((fun q => if q = j then own_enc 2 r2 else if q < N1 then (if q = i then own_enc 1 r1 else 0) else 0) k))), .val (.int (own_get (2 : Int32) ((fun q => if q = j then own_enc 2 r2 else if q < N1 then (if q = i then own_enc 1 r1 else 0) else 0) i)))] [(.int r2), (.int r1), (.int (1 : Int32)), (.int (1 : Int32)), (.int ib), (.int ia), (.int ic), (.int (own_get (2 : Int32) ((fun q => if q = j then own_enc 2 r2 else if q < N1 then (if q = i then own_enc 1 r1 else 0) else 0) k)))])) (s₁.setTop (entryFrame m #[(.int x0), (.int xpa), (.int xpb), (.int xpc), (.int xr1), (.int xr2)] maxLocals)) := fun t kt => st150 t (by
        show Steps p.tables e below (T149.setTop (mkF m 173 #[.val (.int x0), .val (.int xpa), .val (.int xpb), .val (.int xpc), .val (.int xr1), .val (.int xr2), .val (.int n1), .val (.int n2), .val (.int (1 : Int32)), .val (.int (1 : Int32)), .val (.int r1), .val (.int r2), .val (.int n2), .val (.int ia), .val (.int ib), .val (.int ic), .val (.ref b1), .val (.int (own_get (2 : Int32) ((fun q => if q = j then own_enc 2 r2 else if q < N1 then (if q = i then own_enc 1 r1 else 0) else 0) k))), .unset] [(.int (own_get (2 : Int32) ((fun q => if q = j then own_enc 2 r2 else if q < N1 then (if q = i then own_enc 1 r1 else 0) else 0) i)))])) _
        refine XS.istore X149.here hx rfl (hb hby at_173) rfl (l' := #[.val (.int x0), .val (.int xpa), .val (.int xpb), .val (.int xpc), .val (.int xr1), .val (.int xr2), .val (.int n1), .val (.int n2), .val (.int (1 : Int32)), .val (.int (1 : Int32)), .val (.int r1), .val (.int r2), .val (.int n2), .val (.int ia), .val (.int ib), .val (.int ic), .val (.ref b1), .val (.int (own_get (2 : Int32) ((fun q => if q = j then own_enc 2 r2 else if q < N1 then (if q = i then own_enc 1 r1 else 0) else 0) k))), .val (.int (own_get (2 : Int32) ((fun q => if q = j then own_enc 2 r2 else if q < N1 then (if q = i then own_enc 1 r1 else 0) else 0) i)))]) rfl ?_
        show Steps p.tables e below (T149.setTop (mkF m 175 #[.val (.int x0), .val (.int xpa), .val (.int xpb), .val (.int xpc), .val (.int xr1), .val (.int xr2), .val (.int n1), .val (.int n2), .val (.int (1 : Int32)), .val (.int (1 : Int32)), .val (.int r1), .val (.int r2), .val (.int n2), .val (.int ia), .val (.int ib), .val (.int ic), .val (.ref b1), .val (.int (own_get (2 : Int32) ((fun q => if q = j then own_enc 2 r2 else if q < N1 then (if q = i then own_enc 1 r1 else 0) else 0) k))), .val (.int (own_get (2 : Int32) ((fun q => if q = j then own_enc 2 r2 else if q < N1 then (if q = i then own_enc 1 r1 else 0) else 0) i)))] [])) _
        refine XS.iload X149.here hx rfl (hb hby at_175) rfl ?_
        show Steps p.tables e below (T149.setTop (mkF m 177 #[.val (.int x0), .val (.int xpa), .val (.int xpb), .val (.int xpc), .val (.int xr1), .val (.int xr2), .val (.int n1), .val (.int n2), .val (.int (1 : Int32)), .val (.int (1 : Int32)), .val (.int r1), .val (.int r2), .val (.int n2), .val (.int ia), .val (.int ib), .val (.int ic), .val (.ref b1), .val (.int (own_get (2 : Int32) ((fun q => if q = j then own_enc 2 r2 else if q < N1 then (if q = i then own_enc 1 r1 else 0) else 0) k))), .val (.int (own_get (2 : Int32) ((fun q => if q = j then own_enc 2 r2 else if q < N1 then (if q = i then own_enc 1 r1 else 0) else 0) i)))] [(.int (own_get (2 : Int32) ((fun q => if q = j then own_enc 2 r2 else if q < N1 then (if q = i then own_enc 1 r1 else 0) else 0) k)))])) _
        refine XS.iload X149.here hx rfl (hb hby at_177) rfl ?_
        show Steps p.tables e below (T149.setTop (mkF m 179 #[.val (.int x0), .val (.int xpa), .val (.int xpb), .val (.int xpc), .val (.int xr1), .val (.int xr2), .val (.int n1), .val (.int n2), .val (.int (1 : Int32)), .val (.int (1 : Int32)), .val (.int r1), .val (.int r2), .val (.int n2), .val (.int ia), .val (.int ib), .val (.int ic), .val (.ref b1), .val (.int (own_get (2 : Int32) ((fun q => if q = j then own_enc 2 r2 else if q < N1 then (if q = i then own_enc 1 r1 else 0) else 0) k))), .val (.int (own_get (2 : Int32) ((fun q => if q = j then own_enc 2 r2 else if q < N1 then (if q = i then own_enc 1 r1 else 0) else 0) i)))] [(.int ic), (.int (own_get (2 : Int32) ((fun q => if q = j then own_enc 2 r2 else if q < N1 then (if q = i then own_enc 1 r1 else 0) else 0) k)))])) _
        refine XS.iload X149.here hx rfl (hb hby at_179) rfl ?_
        show Steps p.tables e below (T149.setTop (mkF m 181 #[.val (.int x0), .val (.int xpa), .val (.int xpb), .val (.int xpc), .val (.int xr1), .val (.int xr2), .val (.int n1), .val (.int n2), .val (.int (1 : Int32)), .val (.int (1 : Int32)), .val (.int r1), .val (.int r2), .val (.int n2), .val (.int ia), .val (.int ib), .val (.int ic), .val (.ref b1), .val (.int (own_get (2 : Int32) ((fun q => if q = j then own_enc 2 r2 else if q < N1 then (if q = i then own_enc 1 r1 else 0) else 0) k))), .val (.int (own_get (2 : Int32) ((fun q => if q = j then own_enc 2 r2 else if q < N1 then (if q = i then own_enc 1 r1 else 0) else 0) i)))] [(.int ia), (.int ic), (.int (own_get (2 : Int32) ((fun q => if q = j then own_enc 2 r2 else if q < N1 then (if q = i then own_enc 1 r1 else 0) else 0) k)))])) _
        refine XS.iload X149.here hx rfl (hb hby at_181) rfl ?_
        show Steps p.tables e below (T149.setTop (mkF m 183 #[.val (.int x0), .val (.int xpa), .val (.int xpb), .val (.int xpc), .val (.int xr1), .val (.int xr2), .val (.int n1), .val (.int n2), .val (.int (1 : Int32)), .val (.int (1 : Int32)), .val (.int r1), .val (.int r2), .val (.int n2), .val (.int ia), .val (.int ib), .val (.int ic), .val (.ref b1), .val (.int (own_get (2 : Int32) ((fun q => if q = j then own_enc 2 r2 else if q < N1 then (if q = i then own_enc 1 r1 else 0) else 0) k))), .val (.int (own_get (2 : Int32) ((fun q => if q = j then own_enc 2 r2 else if q < N1 then (if q = i then own_enc 1 r1 else 0) else 0) i)))] [(.int ib), (.int ia), (.int ic), (.int (own_get (2 : Int32) ((fun q => if q = j then own_enc 2 r2 else if q < N1 then (if q = i then own_enc 1 r1 else 0) else 0) k)))])) _
        refine XS.iload X149.here hx rfl (hb hby at_183) rfl ?_
        show Steps p.tables e below (T149.setTop (mkF m 185 #[.val (.int x0), .val (.int xpa), .val (.int xpb), .val (.int xpc), .val (.int xr1), .val (.int xr2), .val (.int n1), .val (.int n2), .val (.int (1 : Int32)), .val (.int (1 : Int32)), .val (.int r1), .val (.int r2), .val (.int n2), .val (.int ia), .val (.int ib), .val (.int ic), .val (.ref b1), .val (.int (own_get (2 : Int32) ((fun q => if q = j then own_enc 2 r2 else if q < N1 then (if q = i then own_enc 1 r1 else 0) else 0) k))), .val (.int (own_get (2 : Int32) ((fun q => if q = j then own_enc 2 r2 else if q < N1 then (if q = i then own_enc 1 r1 else 0) else 0) i)))] [(.int (1 : Int32)), (.int ib), (.int ia), (.int ic), (.int (own_get (2 : Int32) ((fun q => if q = j then own_enc 2 r2 else if q < N1 then (if q = i then own_enc 1 r1 else 0) else 0) k)))])) _
        refine XS.iload X149.here hx rfl (hb hby at_185) rfl ?_
        show Steps p.tables e below (T149.setTop (mkF m 187 #[.val (.int x0), .val (.int xpa), .val (.int xpb), .val (.int xpc), .val (.int xr1), .val (.int xr2), .val (.int n1), .val (.int n2), .val (.int (1 : Int32)), .val (.int (1 : Int32)), .val (.int r1), .val (.int r2), .val (.int n2), .val (.int ia), .val (.int ib), .val (.int ic), .val (.ref b1), .val (.int (own_get (2 : Int32) ((fun q => if q = j then own_enc 2 r2 else if q < N1 then (if q = i then own_enc 1 r1 else 0) else 0) k))), .val (.int (own_get (2 : Int32) ((fun q => if q = j then own_enc 2 r2 else if q < N1 then (if q = i then own_enc 1 r1 else 0) else 0) i)))] [(.int (1 : Int32)), (.int (1 : Int32)), (.int ib), (.int ia), (.int ic), (.int (own_get (2 : Int32) ((fun q => if q = j then own_enc 2 r2 else if q < N1 then (if q = i then own_enc 1 r1 else 0) else 0) k)))])) _
        refine XS.iload X149.here hx rfl (hb hby at_187) rfl ?_
        show Steps p.tables e below (T149.setTop (mkF m 189 #[.val (.int x0), .val (.int xpa), .val (.int xpb), .val (.int xpc), .val (.int xr1), .val (.int xr2), .val (.int n1), .val (.int n2), .val (.int (1 : Int32)), .val (.int (1 : Int32)), .val (.int r1), .val (.int r2), .val (.int n2), .val (.int ia), .val (.int ib), .val (.int ic), .val (.ref b1), .val (.int (own_get (2 : Int32) ((fun q => if q = j then own_enc 2 r2 else if q < N1 then (if q = i then own_enc 1 r1 else 0) else 0) k))), .val (.int (own_get (2 : Int32) ((fun q => if q = j then own_enc 2 r2 else if q < N1 then (if q = i then own_enc 1 r1 else 0) else 0) i)))] [(.int r1), (.int (1 : Int32)), (.int (1 : Int32)), (.int ib), (.int ia), (.int ic), (.int (own_get (2 : Int32) ((fun q => if q = j then own_enc 2 r2 else if q < N1 then (if q = i then own_enc 1 r1 else 0) else 0) k)))])) _
        refine XS.iload X149.here hx rfl (hb hby at_189) rfl ?_
        show Steps p.tables e below (T149.setTop (mkF m 191 #[.val (.int x0), .val (.int xpa), .val (.int xpb), .val (.int xpc), .val (.int xr1), .val (.int xr2), .val (.int n1), .val (.int n2), .val (.int (1 : Int32)), .val (.int (1 : Int32)), .val (.int r1), .val (.int r2), .val (.int n2), .val (.int ia), .val (.int ib), .val (.int ic), .val (.ref b1), .val (.int (own_get (2 : Int32) ((fun q => if q = j then own_enc 2 r2 else if q < N1 then (if q = i then own_enc 1 r1 else 0) else 0) k))), .val (.int (own_get (2 : Int32) ((fun q => if q = j then own_enc 2 r2 else if q < N1 then (if q = i then own_enc 1 r1 else 0) else 0) i)))] [(.int r2), (.int r1), (.int (1 : Int32)), (.int (1 : Int32)), (.int ib), (.int ia), (.int ic), (.int (own_get (2 : Int32) ((fun q => if q = j then own_enc 2 r2 else if q < N1 then (if q = i then own_enc 1 r1 else 0) else 0) k)))])) _
        exact kt)
      obtain ⟨_, _, ⟨T152, L152, k152, n152⟩, -, X152, ⟨Lc152, hQ152, l152, y152, z152⟩, ls152⟩ := Jvm.LawKit.callS X149 hx (y := (⟨"com/example/saturation/saturation/WalkMemoGetPinLaw", "expect", "(IIIZZII)I"⟩ : MethodName)) hown (mvT hZ (hw _ (List.mem_of_getElem? (i := 45) rfl))) (mvT hZ (hw _ (List.mem_of_getElem? (i := 46) rfl))) (mvT hZ (hw _ (List.mem_of_getElem? (i := 47) rfl))) (mvT hZ (hw _ (List.mem_of_getElem? (i := 48) rfl))) (by decide) (backOf (W := 1) (rm_exp l Z a0 hw [] ic ia ib ((1 : Int32)) ((1 : Int32)) r1 r2 T142.heap n0 Zq142) hZ (hw _ (List.mem_of_getElem? (i := 48) rfl)) (hw _ (List.mem_of_getElem? (i := 47) rfl)) (by decide) (by decide)) (g := (mkF m 191 #[.val (.int x0), .val (.int xpa), .val (.int xpb), .val (.int xpc), .val (.int xr1), .val (.int xr2), .val (.int n1), .val (.int n2), .val (.int (1 : Int32)), .val (.int (1 : Int32)), .val (.int r1), .val (.int r2), .val (.int n2), .val (.int ia), .val (.int ib), .val (.int ic), .val (.ref b1), .val (.int (own_get (2 : Int32) ((fun q => if q = j then own_enc 2 r2 else if q < N1 then (if q = i then own_enc 1 r1 else 0) else 0) k))), .val (.int (own_get (2 : Int32) ((fun q => if q = j then own_enc 2 r2 else if q < N1 then (if q = i then own_enc 1 r1 else 0) else 0) i)))] [(.int r2), (.int r1), (.int (1 : Int32)), (.int (1 : Int32)), (.int ib), (.int ia), (.int ic), (.int (own_get (2 : Int32) ((fun q => if q = j then own_enc 2 r2 else if q < N1 then (if q = i then own_enc 1 r1 else 0) else 0) k)))])) rfl (by rw [hml]; rfl) (argsL := [(.int ic), (.int ia), (.int ib), (.int (1 : Int32)), (.int (1 : Int32)), (.int r1), (.int r2)]) (rest := [(.int (own_get (2 : Int32) ((fun q => if q = j then own_enc 2 r2 else if q < N1 then (if q = i then own_enc 1 r1 else 0) else 0) k)))]) (lenOf own_pd6 rfl) rfl (by show 2 * 0 + _ ≤ _; exact Nat.le_of_eq rfl) (hb hby at_191) (fun _ _ => ⟨rfl, eq149, (by decide : 4 + 0 ≤ _), (by decide : 34 + 0 ≤ _)⟩)
      dsimp only [Pt.U, Pt.locs, Pt.cells, Pt.slots] at X152 l152 y152 z152 ls152 hQ152
      subst l152 y152 z152
      obtain ⟨rfl, Nq152, eq152⟩ := hQ152
      have N152 := Fr.app N149 Nq152
      have st153 : own_Go p e below (T152.setTop (mkF m 194 #[.val (.int x0), .val (.int xpa), .val (.int xpb), .val (.int xpc), .val (.int xr1), .val (.int xr2), .val (.int n1), .val (.int n2), .val (.int (1 : Int32)), .val (.int (1 : Int32)), .val (.int r1), .val (.int r2), .val (.int n2), .val (.int ia), .val (.int ib), .val (.int ic), .val (.ref b1), .val (.int (own_get (2 : Int32) ((fun q => if q = j then own_enc 2 r2 else if q < N1 then (if q = i then own_enc 1 r1 else 0) else 0) k))), .val (.int (own_get (2 : Int32) ((fun q => if q = j then own_enc 2 r2 else if q < N1 then (if q = i then own_enc 1 r1 else 0) else 0) i)))] [(.int (own_exp ic ia ib (1 : Int32) (1 : Int32) r1 r2)), (.int (own_get (2 : Int32) ((fun q => if q = j then own_enc 2 r2 else if q < N1 then (if q = i then own_enc 1 r1 else 0) else 0) k)))])) (s₁.setTop (entryFrame m #[(.int x0), (.int xpa), (.int xpb), (.int xpc), (.int xr1), (.int xr2)] maxLocals)) := fun t kt => st151 t (ls152 t kt)
      have hc154 : (own_get (2 : Int32) ((fun q => if q = j then own_enc 2 r2 else if q < N1 then (if q = i then own_enc 1 r1 else 0) else 0) k)) = (own_exp ic ia ib (1 : Int32) (1 : Int32) r1 r2) := own_L11 (own_ix i_ic.1 i_ib.1 hk_ic hk_ib) p1 p2
      have st155 : own_Go p e below (T152.setTop (mkF m 213 #[.val (.int x0), .val (.int xpa), .val (.int xpb), .val (.int xpc), .val (.int xr1), .val (.int xr2), .val (.int n1), .val (.int n2), .val (.int (1 : Int32)), .val (.int (1 : Int32)), .val (.int r1), .val (.int r2), .val (.int n2), .val (.int ia), .val (.int ib), .val (.int ic), .val (.ref b1), .val (.int (own_get (2 : Int32) ((fun q => if q = j then own_enc 2 r2 else if q < N1 then (if q = i then own_enc 1 r1 else 0) else 0) k))), .val (.int (own_get (2 : Int32) ((fun q => if q = j then own_enc 2 r2 else if q < N1 then (if q = i then own_enc 1 r1 else 0) else 0) i)))] [(.int r2), (.int r1), (.int (1 : Int32)), (.int (1 : Int32)), (.int ib), (.int ia), (.int ia), (.int (own_get (2 : Int32) ((fun q => if q = j then own_enc 2 r2 else if q < N1 then (if q = i then own_enc 1 r1 else 0) else 0) i)))])) (s₁.setTop (entryFrame m #[(.int x0), (.int xpa), (.int xpb), (.int xpc), (.int xr1), (.int xr2)] maxLocals)) := fun t kt => st153 t (by
        show Steps p.tables e below (T152.setTop (mkF m 194 #[.val (.int x0), .val (.int xpa), .val (.int xpb), .val (.int xpc), .val (.int xr1), .val (.int xr2), .val (.int n1), .val (.int n2), .val (.int (1 : Int32)), .val (.int (1 : Int32)), .val (.int r1), .val (.int r2), .val (.int n2), .val (.int ia), .val (.int ib), .val (.int ic), .val (.ref b1), .val (.int (own_get (2 : Int32) ((fun q => if q = j then own_enc 2 r2 else if q < N1 then (if q = i then own_enc 1 r1 else 0) else 0) k))), .val (.int (own_get (2 : Int32) ((fun q => if q = j then own_enc 2 r2 else if q < N1 then (if q = i then own_enc 1 r1 else 0) else 0) i)))] [(.int (own_exp ic ia ib (1 : Int32) (1 : Int32) r1 r2)), (.int (own_get (2 : Int32) ((fun q => if q = j then own_enc 2 r2 else if q < N1 then (if q = i then own_enc 1 r1 else 0) else 0) k)))])) _
        refine XS.icmpNo X152.here hx rfl (hb hby at_194) rfl (teq hc154).2 ?_
        show Steps p.tables e below (T152.setTop (mkF m 197 #[.val (.int x0), .val (.int xpa), .val (.int xpb), .val (.int xpc), .val (.int xr1), .val (.int xr2), .val (.int n1), .val (.int n2), .val (.int (1 : Int32)), .val (.int (1 : Int32)), .val (.int r1), .val (.int r2), .val (.int n2), .val (.int ia), .val (.int ib), .val (.int ic), .val (.ref b1), .val (.int (own_get (2 : Int32) ((fun q => if q = j then own_enc 2 r2 else if q < N1 then (if q = i then own_enc 1 r1 else 0) else 0) k))), .val (.int (own_get (2 : Int32) ((fun q => if q = j then own_enc 2 r2 else if q < N1 then (if q = i then own_enc 1 r1 else 0) else 0) i)))] [])) _
        refine XS.iload X152.here hx rfl (hb hby at_197) rfl ?_
        show Steps p.tables e below (T152.setTop (mkF m 199 #[.val (.int x0), .val (.int xpa), .val (.int xpb), .val (.int xpc), .val (.int xr1), .val (.int xr2), .val (.int n1), .val (.int n2), .val (.int (1 : Int32)), .val (.int (1 : Int32)), .val (.int r1), .val (.int r2), .val (.int n2), .val (.int ia), .val (.int ib), .val (.int ic), .val (.ref b1), .val (.int (own_get (2 : Int32) ((fun q => if q = j then own_enc 2 r2 else if q < N1 then (if q = i then own_enc 1 r1 else 0) else 0) k))), .val (.int (own_get (2 : Int32) ((fun q => if q = j then own_enc 2 r2 else if q < N1 then (if q = i then own_enc 1 r1 else 0) else 0) i)))] [(.int (own_get (2 : Int32) ((fun q => if q = j then own_enc 2 r2 else if q < N1 then (if q = i then own_enc 1 r1 else 0) else 0) i)))])) _
        refine XS.iload X152.here hx rfl (hb hby at_199) rfl ?_
        show Steps p.tables e below (T152.setTop (mkF m 201 #[.val (.int x0), .val (.int xpa), .val (.int xpb), .val (.int xpc), .val (.int xr1), .val (.int xr2), .val (.int n1), .val (.int n2), .val (.int (1 : Int32)), .val (.int (1 : Int32)), .val (.int r1), .val (.int r2), .val (.int n2), .val (.int ia), .val (.int ib), .val (.int ic), .val (.ref b1), .val (.int (own_get (2 : Int32) ((fun q => if q = j then own_enc 2 r2 else if q < N1 then (if q = i then own_enc 1 r1 else 0) else 0) k))), .val (.int (own_get (2 : Int32) ((fun q => if q = j then own_enc 2 r2 else if q < N1 then (if q = i then own_enc 1 r1 else 0) else 0) i)))] [(.int ia), (.int (own_get (2 : Int32) ((fun q => if q = j then own_enc 2 r2 else if q < N1 then (if q = i then own_enc 1 r1 else 0) else 0) i)))])) _
        refine XS.iload X152.here hx rfl (hb hby at_201) rfl ?_
        show Steps p.tables e below (T152.setTop (mkF m 203 #[.val (.int x0), .val (.int xpa), .val (.int xpb), .val (.int xpc), .val (.int xr1), .val (.int xr2), .val (.int n1), .val (.int n2), .val (.int (1 : Int32)), .val (.int (1 : Int32)), .val (.int r1), .val (.int r2), .val (.int n2), .val (.int ia), .val (.int ib), .val (.int ic), .val (.ref b1), .val (.int (own_get (2 : Int32) ((fun q => if q = j then own_enc 2 r2 else if q < N1 then (if q = i then own_enc 1 r1 else 0) else 0) k))), .val (.int (own_get (2 : Int32) ((fun q => if q = j then own_enc 2 r2 else if q < N1 then (if q = i then own_enc 1 r1 else 0) else 0) i)))] [(.int ia), (.int ia), (.int (own_get (2 : Int32) ((fun q => if q = j then own_enc 2 r2 else if q < N1 then (if q = i then own_enc 1 r1 else 0) else 0) i)))])) _
        refine XS.iload X152.here hx rfl (hb hby at_203) rfl ?_
        show Steps p.tables e below (T152.setTop (mkF m 205 #[.val (.int x0), .val (.int xpa), .val (.int xpb), .val (.int xpc), .val (.int xr1), .val (.int xr2), .val (.int n1), .val (.int n2), .val (.int (1 : Int32)), .val (.int (1 : Int32)), .val (.int r1), .val (.int r2), .val (.int n2), .val (.int ia), .val (.int ib), .val (.int ic), .val (.ref b1), .val (.int (own_get (2 : Int32) ((fun q => if q = j then own_enc 2 r2 else if q < N1 then (if q = i then own_enc 1 r1 else 0) else 0) k))), .val (.int (own_get (2 : Int32) ((fun q => if q = j then own_enc 2 r2 else if q < N1 then (if q = i then own_enc 1 r1 else 0) else 0) i)))] [(.int ib), (.int ia), (.int ia), (.int (own_get (2 : Int32) ((fun q => if q = j then own_enc 2 r2 else if q < N1 then (if q = i then own_enc 1 r1 else 0) else 0) i)))])) _
        refine XS.iload X152.here hx rfl (hb hby at_205) rfl ?_
        show Steps p.tables e below (T152.setTop (mkF m 207 #[.val (.int x0), .val (.int xpa), .val (.int xpb), .val (.int xpc), .val (.int xr1), .val (.int xr2), .val (.int n1), .val (.int n2), .val (.int (1 : Int32)), .val (.int (1 : Int32)), .val (.int r1), .val (.int r2), .val (.int n2), .val (.int ia), .val (.int ib), .val (.int ic), .val (.ref b1), .val (.int (own_get (2 : Int32) ((fun q => if q = j then own_enc 2 r2 else if q < N1 then (if q = i then own_enc 1 r1 else 0) else 0) k))), .val (.int (own_get (2 : Int32) ((fun q => if q = j then own_enc 2 r2 else if q < N1 then (if q = i then own_enc 1 r1 else 0) else 0) i)))] [(.int (1 : Int32)), (.int ib), (.int ia), (.int ia), (.int (own_get (2 : Int32) ((fun q => if q = j then own_enc 2 r2 else if q < N1 then (if q = i then own_enc 1 r1 else 0) else 0) i)))])) _
        refine XS.iload X152.here hx rfl (hb hby at_207) rfl ?_
        show Steps p.tables e below (T152.setTop (mkF m 209 #[.val (.int x0), .val (.int xpa), .val (.int xpb), .val (.int xpc), .val (.int xr1), .val (.int xr2), .val (.int n1), .val (.int n2), .val (.int (1 : Int32)), .val (.int (1 : Int32)), .val (.int r1), .val (.int r2), .val (.int n2), .val (.int ia), .val (.int ib), .val (.int ic), .val (.ref b1), .val (.int (own_get (2 : Int32) ((fun q => if q = j then own_enc 2 r2 else if q < N1 then (if q = i then own_enc 1 r1 else 0) else 0) k))), .val (.int (own_get (2 : Int32) ((fun q => if q = j then own_enc 2 r2 else if q < N1 then (if q = i then own_enc 1 r1 else 0) else 0) i)))] [(.int (1 : Int32)), (.int (1 : Int32)), (.int ib), (.int ia), (.int ia), (.int (own_get (2 : Int32) ((fun q => if q = j then own_enc 2 r2 else if q < N1 then (if q = i then own_enc 1 r1 else 0) else 0) i)))])) _
        refine XS.iload X152.here hx rfl (hb hby at_209) rfl ?_
        show Steps p.tables e below (T152.setTop (mkF m 211 #[.val (.int x0), .val (.int xpa), .val (.int xpb), .val (.int xpc), .val (.int xr1), .val (.int xr2), .val (.int n1), .val (.int n2), .val (.int (1 : Int32)), .val (.int (1 : Int32)), .val (.int r1), .val (.int r2), .val (.int n2), .val (.int ia), .val (.int ib), .val (.int ic), .val (.ref b1), .val (.int (own_get (2 : Int32) ((fun q => if q = j then own_enc 2 r2 else if q < N1 then (if q = i then own_enc 1 r1 else 0) else 0) k))), .val (.int (own_get (2 : Int32) ((fun q => if q = j then own_enc 2 r2 else if q < N1 then (if q = i then own_enc 1 r1 else 0) else 0) i)))] [(.int r1), (.int (1 : Int32)), (.int (1 : Int32)), (.int ib), (.int ia), (.int ia), (.int (own_get (2 : Int32) ((fun q => if q = j then own_enc 2 r2 else if q < N1 then (if q = i then own_enc 1 r1 else 0) else 0) i)))])) _
        refine XS.iload X152.here hx rfl (hb hby at_211) rfl ?_
        show Steps p.tables e below (T152.setTop (mkF m 213 #[.val (.int x0), .val (.int xpa), .val (.int xpb), .val (.int xpc), .val (.int xr1), .val (.int xr2), .val (.int n1), .val (.int n2), .val (.int (1 : Int32)), .val (.int (1 : Int32)), .val (.int r1), .val (.int r2), .val (.int n2), .val (.int ia), .val (.int ib), .val (.int ic), .val (.ref b1), .val (.int (own_get (2 : Int32) ((fun q => if q = j then own_enc 2 r2 else if q < N1 then (if q = i then own_enc 1 r1 else 0) else 0) k))), .val (.int (own_get (2 : Int32) ((fun q => if q = j then own_enc 2 r2 else if q < N1 then (if q = i then own_enc 1 r1 else 0) else 0) i)))] [(.int r2), (.int r1), (.int (1 : Int32)), (.int (1 : Int32)), (.int ib), (.int ia), (.int ia), (.int (own_get (2 : Int32) ((fun q => if q = j then own_enc 2 r2 else if q < N1 then (if q = i then own_enc 1 r1 else 0) else 0) i)))])) _
        exact kt)
      obtain ⟨_, _, ⟨T156, L156, k156, n156⟩, -, X156, ⟨Lc156, hQ156, l156, y156, z156⟩, ls156⟩ := Jvm.LawKit.callS X152 hx (y := (⟨"com/example/saturation/saturation/WalkMemoGetPinLaw", "expect", "(IIIZZII)I"⟩ : MethodName)) hown (mvT hZ (hw _ (List.mem_of_getElem? (i := 45) rfl))) (mvT hZ (hw _ (List.mem_of_getElem? (i := 46) rfl))) (mvT hZ (hw _ (List.mem_of_getElem? (i := 47) rfl))) (mvT hZ (hw _ (List.mem_of_getElem? (i := 48) rfl))) (by decide) (backOf (W := 1) (rm_exp l Z a0 hw [] ia ia ib ((1 : Int32)) ((1 : Int32)) r1 r2 T142.heap n0 Zq142) hZ (hw _ (List.mem_of_getElem? (i := 48) rfl)) (hw _ (List.mem_of_getElem? (i := 47) rfl)) (by decide) (by decide)) (g := (mkF m 213 #[.val (.int x0), .val (.int xpa), .val (.int xpb), .val (.int xpc), .val (.int xr1), .val (.int xr2), .val (.int n1), .val (.int n2), .val (.int (1 : Int32)), .val (.int (1 : Int32)), .val (.int r1), .val (.int r2), .val (.int n2), .val (.int ia), .val (.int ib), .val (.int ic), .val (.ref b1), .val (.int (own_get (2 : Int32) ((fun q => if q = j then own_enc 2 r2 else if q < N1 then (if q = i then own_enc 1 r1 else 0) else 0) k))), .val (.int (own_get (2 : Int32) ((fun q => if q = j then own_enc 2 r2 else if q < N1 then (if q = i then own_enc 1 r1 else 0) else 0) i)))] [(.int r2), (.int r1), (.int (1 : Int32)), (.int (1 : Int32)), (.int ib), (.int ia), (.int ia), (.int (own_get (2 : Int32) ((fun q => if q = j then own_enc 2 r2 else if q < N1 then (if q = i then own_enc 1 r1 else 0) else 0) i)))])) rfl (by rw [hml]; rfl) (argsL := [(.int ia), (.int ia), (.int ib), (.int (1 : Int32)), (.int (1 : Int32)), (.int r1), (.int r2)]) (rest := [(.int (own_get (2 : Int32) ((fun q => if q = j then own_enc 2 r2 else if q < N1 then (if q = i then own_enc 1 r1 else 0) else 0) i)))]) (lenOf own_pd6 rfl) rfl (by show 2 * 0 + _ ≤ _; exact Nat.le_of_eq rfl) (hb hby at_213) (fun _ _ => ⟨rfl, eq152, (by decide : 4 + 0 ≤ _), (by decide : 34 + 0 ≤ _)⟩)
      dsimp only [Pt.U, Pt.locs, Pt.cells, Pt.slots] at X156 l156 y156 z156 ls156 hQ156
      subst l156 y156 z156
      obtain ⟨rfl, Nq156, eq156⟩ := hQ156
      have N156 := Fr.app N152 Nq156
      have st157 : own_Go p e below (T156.setTop (mkF m 216 #[.val (.int x0), .val (.int xpa), .val (.int xpb), .val (.int xpc), .val (.int xr1), .val (.int xr2), .val (.int n1), .val (.int n2), .val (.int (1 : Int32)), .val (.int (1 : Int32)), .val (.int r1), .val (.int r2), .val (.int n2), .val (.int ia), .val (.int ib), .val (.int ic), .val (.ref b1), .val (.int (own_get (2 : Int32) ((fun q => if q = j then own_enc 2 r2 else if q < N1 then (if q = i then own_enc 1 r1 else 0) else 0) k))), .val (.int (own_get (2 : Int32) ((fun q => if q = j then own_enc 2 r2 else if q < N1 then (if q = i then own_enc 1 r1 else 0) else 0) i)))] [(.int (own_exp ia ia ib (1 : Int32) (1 : Int32) r1 r2)), (.int (own_get (2 : Int32) ((fun q => if q = j then own_enc 2 r2 else if q < N1 then (if q = i then own_enc 1 r1 else 0) else 0) i)))])) (s₁.setTop (entryFrame m #[(.int x0), (.int xpa), (.int xpb), (.int xpc), (.int xr1), (.int xr2)] maxLocals)) := fun t kt => st155 t (ls156 t kt)
      have hc158 : (own_get (2 : Int32) ((fun q => if q = j then own_enc 2 r2 else if q < N1 then (if q = i then own_enc 1 r1 else 0) else 0) i)) = (own_exp ia ia ib (1 : Int32) (1 : Int32) r1 r2) := own_L11 (own_ix i_ia.1 i_ib.1 hk_ia hk_ib) p1 p2
      have st159 : own_Go p e below (T156.setTop (mkF m 224 #[.val (.int x0), .val (.int xpa), .val (.int xpb), .val (.int xpc), .val (.int xr1), .val (.int xr2), .val (.int n1), .val (.int n2), .val (.int (1 : Int32)), .val (.int (1 : Int32)), .val (.int r1), .val (.int r2), .val (.int n2), .val (.int ia), .val (.int ib), .val (.int ic), .val (.ref b1), .val (.int (own_get (2 : Int32) ((fun q => if q = j then own_enc 2 r2 else if q < N1 then (if q = i then own_enc 1 r1 else 0) else 0) k))), .val (.int (own_get (2 : Int32) ((fun q => if q = j then own_enc 2 r2 else if q < N1 then (if q = i then own_enc 1 r1 else 0) else 0) i)))] [(.int (1 : Int32))])) (s₁.setTop (entryFrame m #[(.int x0), (.int xpa), (.int xpb), (.int xpc), (.int xr1), (.int xr2)] maxLocals)) := fun t kt => st157 t (by
        show Steps p.tables e below (T156.setTop (mkF m 216 #[.val (.int x0), .val (.int xpa), .val (.int xpb), .val (.int xpc), .val (.int xr1), .val (.int xr2), .val (.int n1), .val (.int n2), .val (.int (1 : Int32)), .val (.int (1 : Int32)), .val (.int r1), .val (.int r2), .val (.int n2), .val (.int ia), .val (.int ib), .val (.int ic), .val (.ref b1), .val (.int (own_get (2 : Int32) ((fun q => if q = j then own_enc 2 r2 else if q < N1 then (if q = i then own_enc 1 r1 else 0) else 0) k))), .val (.int (own_get (2 : Int32) ((fun q => if q = j then own_enc 2 r2 else if q < N1 then (if q = i then own_enc 1 r1 else 0) else 0) i)))] [(.int (own_exp ia ia ib (1 : Int32) (1 : Int32) r1 r2)), (.int (own_get (2 : Int32) ((fun q => if q = j then own_enc 2 r2 else if q < N1 then (if q = i then own_enc 1 r1 else 0) else 0) i)))])) _
        refine XS.icmpNo X156.here hx rfl (hb hby at_216) rfl (teq hc158).2 ?_
        show Steps p.tables e below (T156.setTop (mkF m 219 #[.val (.int x0), .val (.int xpa), .val (.int xpb), .val (.int xpc), .val (.int xr1), .val (.int xr2), .val (.int n1), .val (.int n2), .val (.int (1 : Int32)), .val (.int (1 : Int32)), .val (.int r1), .val (.int r2), .val (.int n2), .val (.int ia), .val (.int ib), .val (.int ic), .val (.ref b1), .val (.int (own_get (2 : Int32) ((fun q => if q = j then own_enc 2 r2 else if q < N1 then (if q = i then own_enc 1 r1 else 0) else 0) k))), .val (.int (own_get (2 : Int32) ((fun q => if q = j then own_enc 2 r2 else if q < N1 then (if q = i then own_enc 1 r1 else 0) else 0) i)))] [])) _
        refine XS.iconst X156.here hx rfl (hb hby at_219) ?_
        show Steps p.tables e below (T156.setTop (mkF m 220 #[.val (.int x0), .val (.int xpa), .val (.int xpb), .val (.int xpc), .val (.int xr1), .val (.int xr2), .val (.int n1), .val (.int n2), .val (.int (1 : Int32)), .val (.int (1 : Int32)), .val (.int r1), .val (.int r2), .val (.int n2), .val (.int ia), .val (.int ib), .val (.int ic), .val (.ref b1), .val (.int (own_get (2 : Int32) ((fun q => if q = j then own_enc 2 r2 else if q < N1 then (if q = i then own_enc 1 r1 else 0) else 0) k))), .val (.int (own_get (2 : Int32) ((fun q => if q = j then own_enc 2 r2 else if q < N1 then (if q = i then own_enc 1 r1 else 0) else 0) i)))] [(.int (1 : Int32))])) _
        refine XS.goto X156.here hx rfl (pc0 := 220) (pc' := 224) rfl (hb hby at_220) (by decide) (by decide) ?_
        show Steps p.tables e below (T156.setTop (mkF m 224 #[.val (.int x0), .val (.int xpa), .val (.int xpb), .val (.int xpc), .val (.int xr1), .val (.int xr2), .val (.int n1), .val (.int n2), .val (.int (1 : Int32)), .val (.int (1 : Int32)), .val (.int r1), .val (.int r2), .val (.int n2), .val (.int ia), .val (.int ib), .val (.int ic), .val (.ref b1), .val (.int (own_get (2 : Int32) ((fun q => if q = j then own_enc 2 r2 else if q < N1 then (if q = i then own_enc 1 r1 else 0) else 0) k))), .val (.int (own_get (2 : Int32) ((fun q => if q = j then own_enc 2 r2 else if q < N1 then (if q = i then own_enc 1 r1 else 0) else 0) i)))] [(.int (1 : Int32))])) _
        exact kt)
      obtain ⟨fs, hr, hrun, hended, hW, hsame⟩ := X156.leave (v := (some (.int (1 : Int32)))) (fun h => by rw [Bd.returns] at h; cases h)
      refine ⟨_, _, st159 _ ?_, hrun, hended, _, _, rfl, ?_, ⟨_, rfl⟩, hW, hsame.mono (by decide) (by decide)⟩
      · exact retN X156 hx (t := .boolean) Bd.returns (by simp) (hb hby at_224) hr
      · show Q_rm_law Z x0 xpa xpb xpc xr1 xr2 h0 n0 _ T156.heap _
        rw [eq156]
        exact ⟨rfl, N156⟩
set_option maxRecDepth 65536 in
set_option maxHeartbeats 40000000 in
theorem comes_1 {Post : Tables → Env → Array Value → State → Outcome → State → Prop} (hpost : ∀ tb e args s v u, (limb_1_1.after args s (.returned v) u = true ∧ limb_1_2.after args s (.returned v) u = true ∧ True) → FrameEnd s (.returned v) u (Jvm.fieldLocs frame_1_writes args s ++ Jvm.arrayLocs frame_1_arrays args s ++ Jvm.staticLocs frame_1_statics s) 16 128 → Post tb e args s (.returned v) u) :
    ArmFor flags0 classFile x code maxLocals ret World_1 tables_1 room_1 Calls_1 rest_1 Pre_1 Post := by
  intro l hfl _ _ p e ha hc hk s m args below hf hA hF happ hP
  obtain ⟨hcalls, hrest, hpre⟩ := hP
  obtain ⟨-, -, -, hnamed, -, -, -, hat⟩ := (Spec.applies_iff hf).mp happ
  obtain ⟨hg, hn⟩ := and_e (Cond.before_iff.mp (show (Jvm.Cond.and given_1 narrow_1).before args s = true from hpre))
  obtain ⟨gg1, gg2⟩ := and_e hg
  obtain ⟨gg3, gg4⟩ := and_e gg2
  obtain ⟨gg5, gg6⟩ := and_e gg4
  obtain ⟨gg7, gg8⟩ := and_e gg6
  obtain ⟨gg9, gg10⟩ := and_e gg8
  obtain ⟨gg11, gg12⟩ := and_e gg10
  obtain ⟨w0, w1, w2, w3, w4, w5, rfl⟩ : ∃ w0 w1 w2 w3 w4 w5 : Value, args = #[w0, w1, w2, w3, w4, w5] := by
    have hs : args.size = 6 := by simpa [Cond.value, given_1] using gg1
    obtain ⟨L⟩ := args
    match L, hs with
    | [w0, w1, w2, w3, w4, w5], _ => exact ⟨w0, w1, w2, w3, w4, w5, rfl⟩
  have hw := fun d (hd : d ∈ tables_1) => atoms_spec (ws := Jvm.Cond.code x code maxLocals ret :: tables_1) hat d (List.mem_cons_of_mem _ hd)
  have hfit : Fit s := fun {y c} hc i hi => by
    obtain ⟨ha, rfl⟩ := Array.getElem?_eq_some_iff.mp hc
    have q := List.all_eq_true.mp ((Array.all_eq_true_iff_forall_mem.mp hF) _ (Array.getElem_mem ha)) i (List.mem_range.mpr hi)
    simpa [Array.getElem?_eq_getElem hi] using q
  obtain ⟨i0, ei0⟩ := is_v gg3
  obtain rfl : w0 = (.int i0) := Option.some.inj ei0
  obtain ⟨i1, ei1⟩ := is_v gg5
  obtain rfl : w1 = (.int i1) := Option.some.inj ei1
  obtain ⟨i2, ei2⟩ := is_v gg7
  obtain rfl : w2 = (.int i2) := Option.some.inj ei2
  obtain ⟨i3, ei3⟩ := is_v gg9
  obtain rfl : w3 = (.int i3) := Option.some.inj ei3
  obtain ⟨i4, ei4⟩ := is_v gg11
  obtain rfl : w4 = (.int i4) := Option.some.inj ei4
  obtain ⟨i5, ei5⟩ := is_v gg12
  obtain rfl : w5 = (.int i5) := Option.some.inj ei5
  obtain ⟨n, o, h1, h2, h3, _, L, rfl, ⟨rfl, N⟩, hq⟩ := rm_law l s _ hw tables_1 i0 i1 i2 i3 i4 i5  s.heap s.heap.size (Nat.le_refl _)  p e ha hc hk s m _ below hf ((Spec.applies_iff_loose hf).mp happ).1 ⟨rfl, State.Warmed39.refl s, rfl⟩ trivial
  refine ⟨n, _, h1, h2, h3, hpost _ _ _ _ _ _ ⟨Cond.after_iff.mpr rfl, Cond.after_iff.mpr (eq_i res_at (Term.int_eval (1)) rfl), trivial⟩ ⟨hq.1, hq.2.1, (hq.2.2.sift fun y hy => Or.inr (N y hy)).mono (by decide) (by decide)⟩⟩
theorem main_1_1 : Claimed_1_1 := comes_1 fun _ _ _ _ _ _ h hF => ⟨h.1, hF⟩
theorem main_1_2 : Claimed_1_2 := comes_1 fun _ _ _ _ _ _ h hF => ⟨h.2.1, hF⟩
end Jvm.Pilot.@@N@@
namespace Jvm.Pilot.@@N@@
open Jvm Jvm.ClassFile Sem Op Lib Jvm.Free Jvm.Stand Jvm.Pilot.@@N@@.Jvm.D
/-! MADE BY PROGRAM (witnessworld.py) out of the Statement's table words and the real class files: 14 classes; the members and pool entries that the words name. The judged class is class 1, her method 2. -/
namespace start1
open Jvm.ClassFile
def u (s : String) : CpInfo := .utf8 (stringToUtf16 s)
/-- a pool by its gaps: so many unusable entries, then the entry; so many at the end -/
def gap : Nat → List CpInfo → List CpInfo
  | 0, r => r
  | n + 1, r => .unusable :: gap n r
def poolList (es : List (Nat × CpInfo)) (last : Nat) : List CpInfo := es.foldr (fun e r => gap e.1 (e.2 :: r)) (gap last [])
def pool (es : List (Nat × CpInfo)) (last : Nat) : Array CpInfo := ⟨poolList es last⟩
def fileOf (pool : Array CpInfo) (this : Nat) (attrs : Array Attribute := #[]) (ms : Array MethodInfo := #[]) (fl : Nat := 33) (sup : Nat := 0) (ifs : Array Nat := #[]) (fds : Array FieldInfo := #[]) : ClassFile where
  minorVersion := 0
  majorVersion := 65
  constantPool := pool
  accessFlags := fl
  thisClass := this
  superClass := sup
  interfaces := ifs
  fields := fds
  methods := ms
  attributes := attrs
def plain (name : String) (sup : Option ClassId) : Class where
  name := name
  kind := .ordinary
  loader := none
  accessFlags := 33
  super := sup
  interfaces := #[]
  cf := none
  fields := #[]
  methods := #[]
  instanceTypes := #[]
  staticTypes := #[]
  resolved := #[]
  callSites := []
  init := .initialized
  statics := none
  mirror := none

def pool0 : Array CpInfo := pool [(5, u "<init>"), (0, u "()V"), (1, .class_ 10), (1, u "java/lang/Object")] 113

def k0c0 : Code := { maxStack := 0, maxLocals := 1, code := object_method_1_code, exceptionTable := #[], attributes := #[] }
def k0m0 : Method := { name := "<init>", desc := "()V", sig := { parameters := [], returnType := none }, accessFlags := 1, code := some k0c0 }
/-- java/lang/Object -/
def k0 : Class := { plain "java/lang/Object" none with
  accessFlags := 33
  interfaces := #[]
  cf := some (fileOf pool0 8 #[] #[{ accessFlags := 1, nameIndex := 5, descriptorIndex := 6, attributes := #[] }] 33 0 #[] #[])
  fields := #[]
  methods := #[k0m0]
  instanceTypes := #[]
  staticTypes := #[]
  resolved := Array.replicate 124 none
  statics := none }

def pool1 : Array CpInfo := pool [(2, .class_ 4), (0, .nameAndType 5 6), (0, u "java/lang/Object"), (0, u "<init>"), (0, u "()V"), (0, .integer 2147483647), (0, .class_ 9), (0, u "com/example/saturation/saturation/WalkMemo"), (0, .methodref 8 3), (0, .methodref 8 12), (0, .nameAndType 13 14), (0, u "start"), (0, u "(I)V"), (0, .methodref 8 16), (0, .nameAndType 17 18), (0, u "put"), (0, u "(II)V"), (0, .methodref 8 20), (0, .nameAndType 21 22), (0, u "get"), (0, u "(I)I"), (0, .methodref 24 25), (0, .class_ 26), (0, .nameAndType 27 28), (0, u "com/example/saturation/saturation/WalkMemoGetPinLaw"), (0, u "expect"), (0, u "(IIIZZII)I"), (3, u "law"), (0, u "(IIIIII)Z")] 2

def k1m0 : Method := { name := "<init>", desc := "()V", sig := { parameters := [], returnType := none }, accessFlags := 1, code := none }
def k1c1 : Code := { maxStack := 2, maxLocals := 7, code := method_2_code, exceptionTable := #[], attributes := #[] }
def k1m1 : Method := { name := "expect", desc := "(IIIZZII)I", sig := { parameters := [.int, .int, .int, .boolean, .boolean, .int, .int], returnType := some .int }, accessFlags := 10, code := some k1c1 }
def k1c2 : Code := { maxStack := 8, maxLocals := 19, code := code, exceptionTable := #[], attributes := #[] }
def k1m2 : Method := { name := "law", desc := "(IIIIII)Z", sig := { parameters := [.int, .int, .int, .int, .int, .int], returnType := some .boolean }, accessFlags := 9, code := some k1c2 }
/-- com/example/saturation/saturation/WalkMemoGetPinLaw -/
def k1 : Class := { plain "com/example/saturation/saturation/WalkMemoGetPinLaw" (some 0) with
  accessFlags := 49
  interfaces := #[]
  cf := some (fileOf pool1 24 #[] #[{ accessFlags := 1, nameIndex := 5, descriptorIndex := 6, attributes := #[] }, { accessFlags := 10, nameIndex := 27, descriptorIndex := 28, attributes := #[] }, { accessFlags := 9, nameIndex := 32, descriptorIndex := 33, attributes := #[] }] 49 2 #[] #[])
  fields := #[]
  methods := #[k1m0, k1m1, k1m2]
  instanceTypes := #[]
  staticTypes := #[]
  resolved := Array.replicate 36 none
  statics := none }

def pool2 : Array CpInfo := pool [(1, .methodref 2 3), (0, .class_ 4), (0, .nameAndType 5 6), (0, u "java/lang/Object"), (0, u "<init>"), (0, u "()V"), (0, .fieldref 8 9), (0, .class_ 10), (0, .nameAndType 11 12), (0, u "com/example/saturation/saturation/WalkMemo"), (0, u "entries"), (0, u "[J"), (0, .methodref 14 15), (0, .class_ 16), (0, .nameAndType 17 18), (0, u "java/lang/Math"), (0, u "max"), (0, u "(II)I"), (0, .methodref 20 21), (0, .class_ 22), (0, .nameAndType 23 24), (0, u "java/util/Arrays"), (0, u "copyOf"), (0, u "([JI)[J"), (0, .fieldref 8 26), (0, .nameAndType 27 28), (0, u "stamp"), (0, u "I"), (6, u "start"), (0, u "(I)V"), (1, u "get"), (0, u "(I)I"), (0, u "put"), (0, u "(II)V")] 2

def k2c0 : Code := { maxStack := 2, maxLocals := 1, code := prog_65_method_1_code, exceptionTable := #[], attributes := #[] }
def k2m0 : Method := { name := "<init>", desc := "()V", sig := { parameters := [], returnType := none }, accessFlags := 0, code := some k2c0 }
def k2c1 : Code := { maxStack := 5, maxLocals := 2, code := prog_65_method_2_code, exceptionTable := #[], attributes := #[] }
def k2m1 : Method := { name := "start", desc := "(I)V", sig := { parameters := [.int], returnType := none }, accessFlags := 0, code := some k2c1 }
def k2c2 : Code := { maxStack := 3, maxLocals := 4, code := prog_65_method_3_code, exceptionTable := #[], attributes := #[] }
def k2m2 : Method := { name := "get", desc := "(I)I", sig := { parameters := [.int], returnType := some .int }, accessFlags := 0, code := some k2c2 }
def k2c3 : Code := { maxStack := 6, maxLocals := 3, code := prog_65_method_4_code, exceptionTable := #[], attributes := #[] }
def k2m3 : Method := { name := "put", desc := "(II)V", sig := { parameters := [.int, .int], returnType := none }, accessFlags := 0, code := some k2c3 }
/-- com/example/saturation/saturation/WalkMemo -/
def k2 : Class := { plain "com/example/saturation/saturation/WalkMemo" (some 0) with
  accessFlags := 32
  interfaces := #[]
  cf := some (fileOf pool2 8 #[] #[{ accessFlags := 0, nameIndex := 5, descriptorIndex := 6, attributes := #[] }, { accessFlags := 0, nameIndex := 35, descriptorIndex := 36, attributes := #[] }, { accessFlags := 0, nameIndex := 38, descriptorIndex := 39, attributes := #[] }, { accessFlags := 0, nameIndex := 40, descriptorIndex := 41, attributes := #[] }] 32 2 #[] #[{ accessFlags := 2, nameIndex := 11, descriptorIndex := 12, attributes := #[] }, { accessFlags := 2, nameIndex := 27, descriptorIndex := 28, attributes := #[] }])
  fields := #[{ name := "entries", type := (.array .long), accessFlags := 2, slot := 0, constantValue := 0 }, { name := "stamp", type := .int, accessFlags := 2, slot := 1, constantValue := 0 }]
  methods := #[k2m0, k2m1, k2m2, k2m3]
  instanceTypes := #[(.array .long), .int]
  staticTypes := #[]
  resolved := Array.replicate 44 none
  statics := none }

def pool3 : Array CpInfo := pool [(1, .class_ 2), (0, u "java/lang/Math"), (1, .class_ 6), (1, u "java/lang/Object"), (0, u "<init>"), (0, u "()V"), (89, .class_ 100), (1, u "java/lang/Math$RandomNumberGeneratorHolder"), (71, u "negativeZeroFloatBits"), (0, u "J"), (2, u "negativeZeroDoubleBits"), (21, u "max"), (2, u "min"), (43, u "$assertionsDisabled"), (0, u "Z"), (88, u "(II)I"), (2, u "twoToTheDoubleScaleDown"), (0, u "D"), (4, u "twoToTheDoubleScaleUp"), (9, u "E"), (3, u "PI"), (2, u "TAU"), (2, u "DEGREES_TO_RADIANS"), (0, u "RADIANS_TO_DEGREES")] 94

def k3m0 : Method := { name := "<init>", desc := "()V", sig := { parameters := [], returnType := none }, accessFlags := 2, code := none }
def k3c1 : Code := { maxStack := 2, maxLocals := 2, code := jdk_29_method_65_code, exceptionTable := #[], attributes := #[] }
def k3m1 : Method := { name := "max", desc := "(II)I", sig := { parameters := [.int, .int], returnType := some .int }, accessFlags := 9, code := some k3c1 }
def k3c2 : Code := { maxStack := 2, maxLocals := 2, code := jdk_29_method_69_code, exceptionTable := #[], attributes := #[] }
def k3m2 : Method := { name := "min", desc := "(II)I", sig := { parameters := [.int, .int], returnType := some .int }, accessFlags := 9, code := some k3c2 }
/-- java/lang/Math -/
def k3 : Class := { plain "java/lang/Math" (some 0) with
  accessFlags := 49
  interfaces := #[]
  cf := some (fileOf pool3 1 #[.nestMembers #[98]] #[{ accessFlags := 2, nameIndex := 7, descriptorIndex := 8, attributes := #[] }, { accessFlags := 9, nameIndex := 198, descriptorIndex := 335, attributes := #[] }, { accessFlags := 9, nameIndex := 201, descriptorIndex := 335, attributes := #[] }] 49 4 #[] #[{ accessFlags := 25, nameIndex := 354, descriptorIndex := 339, attributes := #[] }, { accessFlags := 25, nameIndex := 358, descriptorIndex := 339, attributes := #[] }, { accessFlags := 25, nameIndex := 361, descriptorIndex := 339, attributes := #[] }, { accessFlags := 26, nameIndex := 364, descriptorIndex := 339, attributes := #[] }, { accessFlags := 26, nameIndex := 365, descriptorIndex := 339, attributes := #[] }, { accessFlags := 26, nameIndex := 172, descriptorIndex := 173, attributes := #[] }, { accessFlags := 26, nameIndex := 176, descriptorIndex := 173, attributes := #[] }, { accessFlags := 8, nameIndex := 344, descriptorIndex := 339, attributes := #[] }, { accessFlags := 8, nameIndex := 338, descriptorIndex := 339, attributes := #[] }, { accessFlags := 4120, nameIndex := 245, descriptorIndex := 246, attributes := #[] }])
  fields := #[{ name := "E", type := .double, accessFlags := 25, slot := 0, constantValue := 0 }, { name := "PI", type := .double, accessFlags := 25, slot := 1, constantValue := 0 }, { name := "TAU", type := .double, accessFlags := 25, slot := 2, constantValue := 0 }, { name := "DEGREES_TO_RADIANS", type := .double, accessFlags := 26, slot := 3, constantValue := 0 }, { name := "RADIANS_TO_DEGREES", type := .double, accessFlags := 26, slot := 4, constantValue := 0 }, { name := "negativeZeroFloatBits", type := .long, accessFlags := 26, slot := 5, constantValue := 0 }, { name := "negativeZeroDoubleBits", type := .long, accessFlags := 26, slot := 6, constantValue := 0 }, { name := "twoToTheDoubleScaleUp", type := .double, accessFlags := 8, slot := 7, constantValue := 0 }, { name := "twoToTheDoubleScaleDown", type := .double, accessFlags := 8, slot := 8, constantValue := 0 }, { name := "$assertionsDisabled", type := .boolean, accessFlags := 4120, slot := 9, constantValue := 0 }]
  methods := #[k3m0, k3m1, k3m2]
  instanceTypes := #[]
  staticTypes := #[.double, .double, .double, .double, .double, .long, .long, .double, .double, .boolean]
  resolved := Array.replicate 460 none
  statics := none }

def pool4 : Array CpInfo := pool [(2, .class_ 4), (1, u "java/lang/Object"), (0, u "<init>"), (0, u "()V"), (7, .class_ 16), (1, u "java/util/Arrays"), (57, .class_ 76), (1, u "java/util/Arrays$NaturalOrder"), (36, .class_ 115), (1, u "java/util/Arrays$LegacyMergeSort"), (1, u "Z"), (32, .methodref 151 152), (0, .class_ 153), (0, .nameAndType 154 155), (0, u "java/lang/System"), (0, u "arraycopy"), (0, u "(Ljava/lang/Object;ILjava/lang/Object;II)V"), (146, u "copyOf"), (1, .methodref 305 306), (0, .class_ 307), (0, .nameAndType 308 309), (0, u "java/lang/Math"), (0, u "min"), (0, u "(II)I"), (65, .class_ 376), (0, u "java/util/Arrays$ArrayList"), (68, u "$assertionsDisabled"), (269, u "MIN_ARRAY_SORT_GRAN"), (0, u "I"), (2, u "INSERTIONSORT_THRESHOLD"), (152, u "([JI)[J"), (102, .class_ 976), (0, u "java/util/Arrays$ArrayItr")] 52

def k4m0 : Method := { name := "<init>", desc := "()V", sig := { parameters := [], returnType := none }, accessFlags := 2, code := none }
def k4c1 : Code := { maxStack := 6, maxLocals := 3, code := jdk_65_method_124_code, exceptionTable := #[], attributes := #[] }
def k4m1 : Method := { name := "copyOf", desc := "([JI)[J", sig := { parameters := [(.array .long), .int], returnType := some (.array .long) }, accessFlags := 9, code := some k4c1 }
/-- java/util/Arrays -/
def k4 : Class := { plain "java/util/Arrays" (some 0) with
  accessFlags := 49
  interfaces := #[]
  cf := some (fileOf pool4 14 #[.nestMembers #[975, 375, 113, 74]] #[{ accessFlags := 2, nameIndex := 5, descriptorIndex := 6, attributes := #[] }, { accessFlags := 9, nameIndex := 302, descriptorIndex := 872, attributes := #[] }] 49 2 #[] #[{ accessFlags := 26, nameIndex := 715, descriptorIndex := 716, attributes := #[] }, { accessFlags := 26, nameIndex := 719, descriptorIndex := 716, attributes := #[] }, { accessFlags := 4120, nameIndex := 445, descriptorIndex := 117, attributes := #[] }])
  fields := #[{ name := "MIN_ARRAY_SORT_GRAN", type := .int, accessFlags := 26, slot := 0, constantValue := 0 }, { name := "INSERTIONSORT_THRESHOLD", type := .int, accessFlags := 26, slot := 1, constantValue := 0 }, { name := "$assertionsDisabled", type := .boolean, accessFlags := 4120, slot := 2, constantValue := 0 }]
  methods := #[k4m0, k4m1]
  instanceTypes := #[]
  staticTypes := #[.int, .int, .boolean]
  resolved := Array.replicate 1029 none
  statics := none }

def pool5 : Array CpInfo := pool [(2, .class_ 4), (1, u "java/lang/Object"), (0, u "<init>"), (0, u "()V"), (1, .class_ 10), (1, u "java/lang/System"), (0, u "allowSecurityManager"), (0, u "I"), (16, u "cons"), (0, u "Ljava/io/Console;"), (77, .class_ 110), (1, u "java/lang/System$CallersHolder"), (43, u "initialErrStream"), (0, u "Ljava/io/PrintStream;"), (19, u "security"), (0, u "Ljava/lang/SecurityManager;"), (31, .class_ 209), (0, u "java/lang/System$1"), (7, u "props"), (0, u "Ljava/util/Properties;"), (2, u "lineSeparator"), (0, u "Ljava/lang/String;"), (96, .class_ 321), (1, u "java/lang/System$LoggerFinder"), (5, .class_ 328), (0, u "java/lang/System$Logger"), (67, u "err"), (2, u "out"), (91, u "notSupportedJnuEncoding"), (15, u "in"), (17, u "initialIn"), (0, u "Ljava/io/InputStream;"), (35, u "bootLayer"), (0, u "Ljava/lang/ModuleLayer;"), (99, .class_ 664), (0, u "java/lang/System$2"), (9, u "NEVER"), (2, u "MAYBE"), (49, u "arraycopy"), (0, u "(Ljava/lang/Object;ILjava/lang/Object;II)V"), (72, .class_ 802), (0, u "java/lang/System$Logger$Level")] 31

def k5m0 : Method := { name := "<init>", desc := "()V", sig := { parameters := [], returnType := none }, accessFlags := 2, code := none }
def k5m1 : Method := { name := "arraycopy", desc := "(Ljava/lang/Object;ILjava/lang/Object;II)V", sig := { parameters := [(.object "java/lang/Object"), .int, (.object "java/lang/Object"), .int, .int], returnType := none }, accessFlags := 265, code := none }
/-- java/lang/System -/
def k5 : Class := { plain "java/lang/System" (some 0) with
  accessFlags := 49
  interfaces := #[]
  cf := some (fileOf pool5 8 #[.nestMembers #[319, 327, 801, 108, 663, 208]] #[{ accessFlags := 2, nameIndex := 5, descriptorIndex := 6, attributes := #[] }, { accessFlags := 265, nameIndex := 727, descriptorIndex := 728, attributes := #[] }] 49 2 #[] #[{ accessFlags := 25, nameIndex := 507, descriptorIndex := 526, attributes := #[] }, { accessFlags := 25, nameIndex := 399, descriptorIndex := 155, attributes := #[] }, { accessFlags := 25, nameIndex := 396, descriptorIndex := 155, attributes := #[] }, { accessFlags := 10, nameIndex := 525, descriptorIndex := 526, attributes := #[] }, { accessFlags := 26, nameIndex := 674, descriptorIndex := 12, attributes := #[] }, { accessFlags := 26, nameIndex := 677, descriptorIndex := 12, attributes := #[] }, { accessFlags := 10, nameIndex := 11, descriptorIndex := 12, attributes := #[] }, { accessFlags := 74, nameIndex := 175, descriptorIndex := 176, attributes := #[] }, { accessFlags := 10, nameIndex := 491, descriptorIndex := 222, attributes := #[] }, { accessFlags := 74, nameIndex := 29, descriptorIndex := 30, attributes := #[] }, { accessFlags := 74, nameIndex := 154, descriptorIndex := 155, attributes := #[] }, { accessFlags := 10, nameIndex := 217, descriptorIndex := 218, attributes := #[] }, { accessFlags := 10, nameIndex := 221, descriptorIndex := 222, attributes := #[] }, { accessFlags := 8, nameIndex := 562, descriptorIndex := 563, attributes := #[] }])
  fields := #[{ name := "in", type := (.object "java/io/InputStream"), accessFlags := 25, slot := 0, constantValue := 0 }, { name := "out", type := (.object "java/io/PrintStream"), accessFlags := 25, slot := 1, constantValue := 0 }, { name := "err", type := (.object "java/io/PrintStream"), accessFlags := 25, slot := 2, constantValue := 0 }, { name := "initialIn", type := (.object "java/io/InputStream"), accessFlags := 10, slot := 3, constantValue := 0 }, { name := "NEVER", type := .int, accessFlags := 26, slot := 4, constantValue := 0 }, { name := "MAYBE", type := .int, accessFlags := 26, slot := 5, constantValue := 0 }, { name := "allowSecurityManager", type := .int, accessFlags := 10, slot := 6, constantValue := 0 }, { name := "security", type := (.object "java/lang/SecurityManager"), accessFlags := 74, slot := 7, constantValue := 0 }, { name := "notSupportedJnuEncoding", type := (.object "java/lang/String"), accessFlags := 10, slot := 8, constantValue := 0 }, { name := "cons", type := (.object "java/io/Console"), accessFlags := 74, slot := 9, constantValue := 0 }, { name := "initialErrStream", type := (.object "java/io/PrintStream"), accessFlags := 74, slot := 10, constantValue := 0 }, { name := "props", type := (.object "java/util/Properties"), accessFlags := 10, slot := 11, constantValue := 0 }, { name := "lineSeparator", type := (.object "java/lang/String"), accessFlags := 10, slot := 12, constantValue := 0 }, { name := "bootLayer", type := (.object "java/lang/ModuleLayer"), accessFlags := 8, slot := 13, constantValue := 0 }]
  methods := #[k5m0, k5m1]
  instanceTypes := #[]
  staticTypes := #[(.object "java/io/InputStream"), (.object "java/io/PrintStream"), (.object "java/io/PrintStream"), (.object "java/io/InputStream"), .int, .int, .int, (.object "java/lang/SecurityManager"), (.object "java/lang/String"), (.object "java/io/Console"), (.object "java/io/PrintStream"), (.object "java/util/Properties"), (.object "java/lang/String"), (.object "java/lang/ModuleLayer")]
  resolved := Array.replicate 834 none
  statics := none }

def pool6 : Array CpInfo := pool [(1, u "java/lang/Cloneable"), (0, .class_ 1), (0, u "java/lang/Object"), (0, .class_ 3)] 3

/-- java/lang/Cloneable -/
def k6 : Class := { plain "java/lang/Cloneable" (some 0) with
  accessFlags := 1537
  interfaces := #[]
  cf := some (fileOf pool6 2 #[] #[] 1537 4 #[] #[])
  fields := #[]
  methods := #[]
  instanceTypes := #[]
  staticTypes := #[]
  resolved := Array.replicate 8 none
  statics := none }

def pool7 : Array CpInfo := pool [(1, u "java/io/Serializable"), (0, .class_ 1), (0, u "java/lang/Object"), (0, .class_ 3)] 3

/-- java/io/Serializable -/
def k7 : Class := { plain "java/io/Serializable" (some 0) with
  accessFlags := 1537
  interfaces := #[]
  cf := some (fileOf pool7 2 #[] #[] 1537 4 #[] #[])
  fields := #[]
  methods := #[]
  instanceTypes := #[]
  staticTypes := #[]
  resolved := Array.replicate 8 none
  statics := none }

/-- the primitive byte -/
def k8 : Class := { plain "byte" none with kind := .primitive 'B', accessFlags := 0x411 }
/-- [B -/
def k9 : Class := { plain "[B" (some 0) with kind := .array 8 .byte, interfaces := #[6, 7], accessFlags := 1041 }

/-- the primitive int -/
def k10 : Class := { plain "int" none with kind := .primitive 'I', accessFlags := 0x411 }
/-- [I -/
def k11 : Class := { plain "[I" (some 0) with kind := .array 10 .int, interfaces := #[6, 7], accessFlags := 1041 }

/-- the primitive long -/
def k12 : Class := { plain "long" none with kind := .primitive 'J', accessFlags := 0x411 }
/-- [J -/
def k13 : Class := { plain "[J" (some 0) with kind := .array 12 .long, interfaces := #[6, 7], accessFlags := 1041 }

def heap : Heap := #[]
def classes : Array Class := #[k0, k1, k2, k3, k4, k5, k6, k7, k8, k9, k10, k11, k12, k13]
def interned : List (Array UInt16 × Addr) := []
def slotsUsed : Nat := 0
def theMethod : MethodId := ⟨1, 2⟩
def args0 : Array Value := #[.int 5, .int 5, .int 5, .int 5, .int 5, .int 5]
def aboutOver (below : List Frame) : State where
  vm := { classes := classes, interned := interned.toArray }
  heap := heap
  slotsUsed := slotsUsed
  threads := #[{ frames := .invoking theMethod args0 :: below }]
def below0 : List Frame := [.native { method := ⟨0, 0⟩, args := #[] }]
def about1 : State := aboutOver below0
def p0 : Program := .bare "" "" ""
def e0 : Env := launch0.env 0 0 0
theorem w_frames : about1.frames = Frame.invoking theMethod args0 :: below0 := rfl
set_option maxRecDepth 65536 in
theorem w_args : argsFit about1.vm theMethod args0 = true := by decide +kernel
set_option maxRecDepth 65536 in
theorem w_heap : heapFits about1 = true := by decide +kernel
set_option maxRecDepth 65536 in
theorem w_runnable : about1.curStatus? = some .runnable := by decide +kernel
set_option maxRecDepth 65536 in
theorem w_alone : about1.alone = true := by decide +kernel
set_option maxRecDepth 65536 in
theorem w_named : about1.methodNamed? x = some theMethod := by decide +kernel
set_option maxRecDepth 65536 in
theorem w_hears : about1.hears theMethod below0 = true := by decide +kernel
set_option maxRecDepth 65536 in
theorem w_ripe : about1.ripe theMethod args0 below0 = true := by decide +kernel
theorem w_running : about1.status = .running := rfl
set_option maxRecDepth 65536 in
theorem w_room : about1.hasRoom e0.platform room_1 = true :=
  launch0.hasRoom_least _ room_1 (by decide +kernel) (by decide +kernel) (by decide +kernel) (by decide +kernel) (by decide +kernel) (by decide +kernel)
theorem allAtoms_all (ts : List Jvm.Cond) (a : Array Jvm.Value) (st : Jvm.State) : (allAtoms ts).before a st = ts.all (fun c => c.before a st) := by
  induction ts with
  | nil => rfl
  | cons c t ih =>
    show (Jvm.Cond.and c (allAtoms t)).before a st = _
    rw [Jvm.Cond.before_and, ih, List.all_cons]
def words1 : List Jvm.Cond := Jvm.Cond.code x code maxLocals ret :: tables_1
/-- a 'code' word, met by the world's own term for the bytes: nothing is compared byte by byte -/
theorem code_word {y : MethodName} {bytes : ByteArray} {mx : Nat} {rt : Option FieldType} {a : Array Value} {s : State} {m : MethodId} {meth : Method} {c : Code} (h1 : s.methodNamed? y = some m) (h2 : s.vm.method? m = some meth) (h3 : meth.code = some c) (h4 : c.code = bytes)
    (h5 : (c.maxLocals == mx && c.exceptionTable.isEmpty && decide (c.maxStack ≤ mostOperands) && decide (meth.sig.returnType = rt) && !meth.locks && decide (parseMethodDescriptor y.desc = some meth.sig)) = true) : (Jvm.Cond.code y bytes mx rt).before a s = true := by
  simp only [Bool.and_eq_true, beq_iff_eq, Bool.not_eq_true', decide_eq_true_eq] at h5
  obtain ⟨⟨⟨⟨⟨g1, g2⟩, g3⟩, g4⟩, g5⟩, g6⟩ := h5
  simp [Cond.before, Cond.holds, Cond.value, h1, h2, h3, h4, g1, g2, g3, g4, g5, g6]
def isCode : Jvm.Cond → Bool
  | .code _ _ _ _ => true
  | _ => false
theorem all_split {L : List Jvm.Cond} {P : Jvm.Cond → Bool} (h1 : L.all (fun c => isCode c || P c) = true) (h2 : ∀ c ∈ L.filter isCode, P c = true) : L.all P = true := by
  refine List.all_eq_true.mpr fun c hc => ?_
  have h := List.all_eq_true.mp h1 c hc
  rcases Bool.eq_false_or_eq_true (isCode c) with hi | hi
  · exact h2 c (List.mem_filter.mpr ⟨hc, hi⟩)
  · simpa [hi] using h
set_option maxRecDepth 65536 in
theorem w_c0 : (Jvm.Cond.code x code maxLocals ret).before args0 about1 = true := code_word (m := ⟨1, 2⟩) (meth := k1m2) (c := k1c2) (by decide +kernel) rfl rfl rfl (by decide +kernel)
set_option maxRecDepth 65536 in
theorem w_c1 : (Jvm.Cond.code ({ cls := "com/example/saturation/saturation/WalkMemo", name := "<init>", desc := "()V" } : Jvm.MethodName) prog_65_method_1_code (1 : Nat) (Option.none : Option Jvm.ClassFile.FieldType)).before args0 about1 = true := code_word (m := ⟨2, 0⟩) (meth := k2m0) (c := k2c0) (by decide +kernel) rfl rfl rfl (by decide +kernel)
set_option maxRecDepth 65536 in
theorem w_c2 : (Jvm.Cond.code ({ cls := "java/lang/Object", name := "<init>", desc := "()V" } : Jvm.MethodName) object_method_1_code (1 : Nat) (Option.none : Option Jvm.ClassFile.FieldType)).before args0 about1 = true := code_word (m := ⟨0, 0⟩) (meth := k0m0) (c := k0c0) (by decide +kernel) rfl rfl rfl (by decide +kernel)
set_option maxRecDepth 65536 in
theorem w_c3 : (Jvm.Cond.code ({ cls := "com/example/saturation/saturation/WalkMemo", name := "start", desc := "(I)V" } : Jvm.MethodName) prog_65_method_2_code (2 : Nat) (Option.none : Option Jvm.ClassFile.FieldType)).before args0 about1 = true := code_word (m := ⟨2, 1⟩) (meth := k2m1) (c := k2c1) (by decide +kernel) rfl rfl rfl (by decide +kernel)
set_option maxRecDepth 65536 in
theorem w_c4 : (Jvm.Cond.code ({ cls := "java/lang/Math", name := "max", desc := "(II)I" } : Jvm.MethodName) jdk_29_method_65_code (2 : Nat) (Option.some Jvm.ClassFile.FieldType.int)).before args0 about1 = true := code_word (m := ⟨3, 1⟩) (meth := k3m1) (c := k3c1) (by decide +kernel) rfl rfl rfl (by decide +kernel)
set_option maxRecDepth 65536 in
theorem w_c5 : (Jvm.Cond.code ({ cls := "java/util/Arrays", name := "copyOf", desc := "([JI)[J" } : Jvm.MethodName) jdk_65_method_124_code (3 : Nat) (Option.some (Jvm.ClassFile.FieldType.array Jvm.ClassFile.FieldType.long))).before args0 about1 = true := code_word (m := ⟨4, 1⟩) (meth := k4m1) (c := k4c1) (by decide +kernel) rfl rfl rfl (by decide +kernel)
set_option maxRecDepth 65536 in
theorem w_c6 : (Jvm.Cond.code ({ cls := "java/lang/Math", name := "min", desc := "(II)I" } : Jvm.MethodName) jdk_29_method_69_code (2 : Nat) (Option.some Jvm.ClassFile.FieldType.int)).before args0 about1 = true := code_word (m := ⟨3, 2⟩) (meth := k3m2) (c := k3c2) (by decide +kernel) rfl rfl rfl (by decide +kernel)
set_option maxRecDepth 65536 in
theorem w_c7 : (Jvm.Cond.code ({ cls := "com/example/saturation/saturation/WalkMemo", name := "put", desc := "(II)V" } : Jvm.MethodName) prog_65_method_4_code (3 : Nat) (Option.none : Option Jvm.ClassFile.FieldType)).before args0 about1 = true := code_word (m := ⟨2, 3⟩) (meth := k2m3) (c := k2c3) (by decide +kernel) rfl rfl rfl (by decide +kernel)
set_option maxRecDepth 65536 in
theorem w_c8 : (Jvm.Cond.code ({ cls := "com/example/saturation/saturation/WalkMemo", name := "get", desc := "(I)I" } : Jvm.MethodName) prog_65_method_3_code (4 : Nat) (Option.some Jvm.ClassFile.FieldType.int)).before args0 about1 = true := code_word (m := ⟨2, 2⟩) (meth := k2m2) (c := k2c2) (by decide +kernel) rfl rfl rfl (by decide +kernel)
set_option maxRecDepth 65536 in
theorem w_c9 : (Jvm.Cond.code ({ cls := "com/example/saturation/saturation/WalkMemoGetPinLaw", name := "expect", desc := "(IIIZZII)I" } : Jvm.MethodName) method_2_code (7 : Nat) (Option.some Jvm.ClassFile.FieldType.int)).before args0 about1 = true := code_word (m := ⟨1, 1⟩) (meth := k1m1) (c := k1c1) (by decide +kernel) rfl rfl rfl (by decide +kernel)
def codes1 : List Jvm.Cond := [Jvm.Cond.code x code maxLocals ret, Jvm.Cond.code ({ cls := "com/example/saturation/saturation/WalkMemo", name := "<init>", desc := "()V" } : Jvm.MethodName) prog_65_method_1_code (1 : Nat) (Option.none : Option Jvm.ClassFile.FieldType), Jvm.Cond.code ({ cls := "java/lang/Object", name := "<init>", desc := "()V" } : Jvm.MethodName) object_method_1_code (1 : Nat) (Option.none : Option Jvm.ClassFile.FieldType), Jvm.Cond.code ({ cls := "com/example/saturation/saturation/WalkMemo", name := "start", desc := "(I)V" } : Jvm.MethodName) prog_65_method_2_code (2 : Nat) (Option.none : Option Jvm.ClassFile.FieldType), Jvm.Cond.code ({ cls := "java/lang/Math", name := "max", desc := "(II)I" } : Jvm.MethodName) jdk_29_method_65_code (2 : Nat) (Option.some Jvm.ClassFile.FieldType.int), Jvm.Cond.code ({ cls := "java/util/Arrays", name := "copyOf", desc := "([JI)[J" } : Jvm.MethodName) jdk_65_method_124_code (3 : Nat) (Option.some (Jvm.ClassFile.FieldType.array Jvm.ClassFile.FieldType.long)), Jvm.Cond.code ({ cls := "java/lang/Math", name := "min", desc := "(II)I" } : Jvm.MethodName) jdk_29_method_69_code (2 : Nat) (Option.some Jvm.ClassFile.FieldType.int), Jvm.Cond.code ({ cls := "com/example/saturation/saturation/WalkMemo", name := "put", desc := "(II)V" } : Jvm.MethodName) prog_65_method_4_code (3 : Nat) (Option.none : Option Jvm.ClassFile.FieldType), Jvm.Cond.code ({ cls := "com/example/saturation/saturation/WalkMemo", name := "get", desc := "(I)I" } : Jvm.MethodName) prog_65_method_3_code (4 : Nat) (Option.some Jvm.ClassFile.FieldType.int), Jvm.Cond.code ({ cls := "com/example/saturation/saturation/WalkMemoGetPinLaw", name := "expect", desc := "(IIIZZII)I" } : Jvm.MethodName) method_2_code (7 : Nat) (Option.some Jvm.ClassFile.FieldType.int)]
set_option maxRecDepth 65536 in
theorem codes_eq : words1.filter isCode = codes1 := rfl
theorem w_codes : ∀ c ∈ words1.filter isCode, c.before args0 about1 = true := by
  rw [codes_eq]
  intro c hc
  simp only [codes1, List.mem_cons, List.not_mem_nil, or_false] at hc
  rcases hc with rfl | rfl | rfl | rfl | rfl | rfl | rfl | rfl | rfl | rfl
  · exact w_c0
  · exact w_c1
  · exact w_c2
  · exact w_c3
  · exact w_c4
  · exact w_c5
  · exact w_c6
  · exact w_c7
  · exact w_c8
  · exact w_c9
set_option maxRecDepth 65536 in
theorem w_t1 : (words1.take 24).all (fun c => isCode c || c.before args0 about1) = true := by decide +kernel
set_option maxRecDepth 65536 in
theorem w_t2 : ((words1.drop 24).take 24).all (fun c => isCode c || c.before args0 about1) = true := by decide +kernel
set_option maxRecDepth 65536 in
theorem w_t3 : ((words1.drop 24).drop 24).all (fun c => isCode c || c.before args0 about1) = true := by decide +kernel
theorem w_tables : (allAtoms (Jvm.Cond.code x code maxLocals ret :: tables_1)).before args0 about1 = true := by
  rw [allAtoms_all]
  show words1.all (fun c => c.before args0 about1) = true
  refine all_split ?_ w_codes
  rw [← List.take_append_drop 24 words1, List.all_append, w_t1, ← List.take_append_drop 24 (words1.drop 24), List.all_append, w_t2, w_t3]
  rfl
set_option maxRecDepth 65536 in
theorem w_case : (Jvm.Cond.and given_1 narrow_1).before args0 about1 = true := by decide +kernel
theorem w_applies : (headSpec (Jvm.Cond.code x code maxLocals ret :: tables_1) room_1).applies x e0.platform about1 = true :=
  (Spec.applies_iff w_frames).mpr ⟨w_running, w_runnable, w_alone, w_named, w_hears, w_ripe, w_room, w_tables⟩
theorem atStart : AtStart classFile x code maxLocals ret World_1 tables_1 room_1 Calls_1 rest_1 Pre_1 launch0 p0 e0 about1 theMethod args0 below0 :=
  ⟨lists_1, trivial, launch0.admits_env _ _ _, launch0.least_env, fairChoices_fair.cas, fairChoices_fair.clock, w_frames, w_args, w_heap, w_applies, trivial, trivial, w_case⟩
end start1
theorem witness_1 : WitnessClaimed_1 := ⟨start1.p0, start1.e0, start1.about1, start1.theMethod, start1.args0, start1.below0, start1.atStart⟩
end Jvm.Pilot.@@N@@
