import JvmDerived
import JvmDerived.Pilot.@@N@@Statement
import JvmDerived.Pilot.@@N@@Code
set_option linter.unusedVariables false
set_option linter.unusedSimpArgs false
/- laws to paste: Road.backV, Road.lenW, Road.chN, Road.codOf (cut by pick.py; bodies as the Statement names them) -/
namespace Jvm.Pilot.@@N@@
namespace StrChars
open Jvm Sem ClassFile Op Lib Jvm.Stand Jvm.Free.XT Jvm.Free.ALB Jvm.Free.JM Jvm.Free
open Jvm.Lib.Cold (StaticIs)
/-- a char array whose places are chars -/
def Ch (a : Addr) (A : Cell) (U : State) : Prop := Arr .char a A U ∧ Typed .char A
theorem Ch.mv {a : Addr} {A : Cell} {U U' : State} (h : Ch a A U) (hal : U.vm.Alike U'.vm) (hh : U'.heap = U.heap) : Ch a A U' := ⟨h.1.mv hal hh, h.2⟩
theorem Ch.keep {a : Addr} {A : Cell} {U U' : State} (h : Ch a A U) (hal : U.vm.Alike U'.vm) (hk : U'.heap[a]? = some A) : Ch a A U' := ⟨h.1.keep hal hk, h.2⟩
/-- what place i of a char[]'s cell holds -/
def cv (A : Cell) (i : Nat) : Int32 := match A.slots[i]? with | some (.int x) => x | _ => 0
theorem Ch.get {a : Addr} {A : Cell} {U : State} (h : Ch a A U) {i : Nat} (hi : i < A.slots.size) : A.slots[i]? = some (.int (cv A i)) := by
  have e := Array.getElem?_eq_getElem hi
  have f := h.2 i _ e
  unfold cv; rw [e]
  generalize A.slots[i] = v at f
  cases v <;> simp [fits] at f ⊢
/-- the byte that i2b leaves of a char -/
def lo8 (x : Int32) : Int32 := x.toInt8.toInt32
theorem fits_lo8 (y : Int32) : fits .byte (.int (lo8 y)) = true := by
  have h1 := y.toInt8.le_toInt
  have h2 := y.toInt8.toInt_lt
  simp only [lo8, fits, Bool.and_eq_true, decide_eq_true_eq, Int32.le_iff_toInt_le, Int8.toInt_toInt32, show (-128 : Int32).toInt = -128 from by decide, show (127 : Int32).toInt = 127 from by decide]
  omega
/-- A' is A but that each place j of lo .. hi - 1 holds f j -/
def Laid (A A' : Cell) (lo hi : Nat) (f : Nat → Value) : Prop := A'.cls = A.cls ∧ A'.vm = A.vm ∧ A'.slots.size = A.slots.size ∧ ∀ i, A'.slots[i]? = if lo ≤ i ∧ i < hi then some (f i) else A.slots[i]?
theorem Laid.zero (A : Cell) (lo : Nat) (f : Nat → Value) : Laid A A lo (lo + 0) f := ⟨rfl, rfl, rfl, fun i => by rw [if_neg (by omega)]⟩
theorem Laid.step {A Ak : Cell} {lo k : Nat} {f : Nat → Value} {v : Value} (h : Laid A Ak lo k f) (hlo : lo ≤ k) (hk : k < Ak.slots.size) (hv : v = f k) : Laid A (Ak.setSlot k v) lo (k + 1) f := by
  refine ⟨h.1, h.2.1, by simpa [Cell.setSlot] using h.2.2.1, fun i => ?_⟩
  by_cases e : k = i
  · subst e; rw [Cell.slots_setSlot_self v hk, if_pos (by omega), hv]
  · rw [Cell.slots_setSlot_ne v e, h.2.2.2 i]
    by_cases q : lo ≤ i ∧ i < k
    · rw [if_pos q, if_pos (by omega)]
    · rw [if_neg q, if_neg (by omega)]
def U16 : String := "java/lang/StringUTF16"
namespace Cmp5
def yN : MethodName := ⟨"java/lang/StringUTF16", "compress", "([CI[BII)I"⟩
abbrev yB : ByteArray := jdk_52_method_21_code
theorem d0 : decode yB 0 = .ok (.iconst 0, 1) := by decide +kernel
theorem d1 : decode yB 1 = .ok (.istore 5, 2) := by decide +kernel
theorem d3 : decode yB 3 = .ok (.iload 5, 2) := by decide +kernel
theorem d5 : decode yB 5 = .ok (.iload 4, 2) := by decide +kernel
theorem d7 : decode yB 7 = .ok (.if_icmp (.ge) 37, 3) := by decide +kernel
theorem d10 : decode yB 10 = .ok (.aload_n 0, 1) := by decide +kernel
theorem d11 : decode yB 11 = .ok (.iload_n 1, 1) := by decide +kernel
theorem d12 : decode yB 12 = .ok (.caload, 1) := by decide +kernel
theorem d13 : decode yB 13 = .ok (.istore 6, 2) := by decide +kernel
theorem d15 : decode yB 15 = .ok (.iload 6, 2) := by decide +kernel
theorem d17 : decode yB 17 = .ok (.sipush 255, 3) := by decide +kernel
theorem d20 : decode yB 20 = .ok (.if_icmp (.le) 6, 3) := by decide +kernel
theorem d26 : decode yB 26 = .ok (.aload_n 2, 1) := by decide +kernel
theorem d27 : decode yB 27 = .ok (.iload_n 3, 1) := by decide +kernel
theorem d28 : decode yB 28 = .ok (.iload 6, 2) := by decide +kernel
theorem d30 : decode yB 30 = .ok (.i2b, 1) := by decide +kernel
theorem d31 : decode yB 31 = .ok (.bastore, 1) := by decide +kernel
theorem d32 : decode yB 32 = .ok (.iinc 1 1, 3) := by decide +kernel
theorem d35 : decode yB 35 = .ok (.iinc 3 1, 3) := by decide +kernel
theorem d38 : decode yB 38 = .ok (.iinc 5 1, 3) := by decide +kernel
theorem d41 : decode yB 41 = .ok (.goto (-38), 3) := by decide +kernel
theorem d44 : decode yB 44 = .ok (.iload 4, 2) := by decide +kernel
theorem d46 : decode yB 46 = .ok (.ireturn, 1) := by decide +kernel
def site : List Cond := []
def tab : Cond := tabOf yN yB 7 (some .int) site
def P (b : Addr) (A : Cell) (d : Addr) (B : Cell) (o q len : Nat) (args : Array Value) (s : State) : Prop := args = #[.ref b, .int (Int32.ofNat o), .ref d, .int (Int32.ofNat q), .int (Int32.ofNat len)] ∧ Ch b A s ∧ Arr .byte d B s ∧ b ≠ d ∧ o + len ≤ A.slots.size ∧ q + len ≤ B.slots.size ∧ ∀ i, i < len → ¬ 255 < cv A (o + i)
def E (b : Addr) (A : Cell) (d : Addr) (B : Cell) (o q len : Nat) (r : Option Value) (s u : State) : Prop := r = some (.int (Int32.ofNat len)) ∧ ∃ B', Put d B' s u ∧ Laid B B' q (q + len) (fun j => Value.int (lo8 (cv A (o + (j - q)))))
/-- no char of the range above 255: len; the places written hold each char's low byte -/
theorem law (l : Launch) (b : Addr) (A : Cell) (d : Addr) (B : Cell) (o q len : Nat) : Law l yN 5 5 0 0 yB 7 (some .int) site (P b A d B o q len) (E b A d B o q len) (copyLocs d q len) 0 0 := by
  refine Law.of_walk (plainFor_of_name (by decide +kernel)) (by decide +kernel) (by decide +kernel) (by decide) (fun _ _ h => by rw [h.1]; rfl) (fun _ U U' hal hh h => ⟨h.1, h.2.1.mv hal hh, h.2.2.1.mv hal hh, h.2.2.2⟩) (fun r U U' V V' h1 hal h2 h => ⟨h.1, h.2.elim fun B' q => ⟨B', q.1.mv h1 h2, q.2⟩⟩) ?_
  intro p e s m args below meth c s₁ X0 hexec hbytes hml hret hlk hnm hown hh0 W hP
  obtain ⟨rfl, hA, hB, hne, l1, l2, hp⟩ := hP
  have c1 : Steps p.tables e below (s₁.setTop (entryFrame m #[.ref b, .int (Int32.ofNat o), .ref d, .int (Int32.ofNat q), .int (Int32.ofNat len)] 7)) (s₁.setTop (mkF m 0 #[.val (.ref b), .val (.int (Int32.ofNat o)), .val (.ref d), .val (.int (Int32.ofNat q)), .val (.int (Int32.ofNat len)), .unset, .unset] [])) := entry rfl
  have hA0 := hA.1.mv X0.warmed.alike hh0
  have hB0 := hB.mv X0.warmed.alike hh0
  have a31 := hA.1.2.2.2
  have c2 : Steps p.tables e below (s₁.setTop (entryFrame m #[.ref b, .int (Int32.ofNat o), .ref d, .int (Int32.ofNat q), .int (Int32.ofNat len)] 7)) (s₁.setTop (mkF m 3 #[.val (.ref b), .val (.int (Int32.ofNat o)), .val (.ref d), .val (.int (Int32.ofNat q)), .val (.int (Int32.ofNat len)), .val (.int 0), .unset] [])) := c1.trans (by
    refine iconstV X0.here hexec rfl 0 (hb hbytes d0) (by decide) ?_
    refine XS.istore X0.here hexec rfl (hb hbytes d1) rfl rfl ?_
    exact Steps.refl _)
  have loop : ∀ (r i : Nat), i + r = len → ∀ (z : Slot), (z = .unset ∨ ∃ w, z = .val w ∧ w.category = 1) → ∀ (Tl : State) (Bk : Cell), Stand p l e { frames := 0, locals := 0, cells := 0, slots := 0 } s m #[.ref b, .int (Int32.ofNat o), .ref d, .int (Int32.ofNat q), .int (Int32.ofNat len)] below meth c Tl ([] ++ copyLocs d q i) 0 0 → Put d Bk s₁ Tl → Laid B Bk q (q + i) (fun j => Value.int (lo8 (cv A (o + (j - q))))) →
      Steps p.tables e below (s₁.setTop (entryFrame m #[.ref b, .int (Int32.ofNat o), .ref d, .int (Int32.ofNat q), .int (Int32.ofNat len)] 7)) (Tl.setTop (mkF m 3 #[.val (.ref b), .val (.int (Int32.ofNat (o + i))), .val (.ref d), .val (.int (Int32.ofNat (q + i))), .val (.int (Int32.ofNat len)), .val (.int (Int32.ofNat i)), z] [])) → ∃ (T' : State) (B' : Cell) (z' : Slot), Stand p l e { frames := 0, locals := 0, cells := 0, slots := 0 } s m #[.ref b, .int (Int32.ofNat o), .ref d, .int (Int32.ofNat q), .int (Int32.ofNat len)] below meth c T' ([] ++ copyLocs d q len) 0 0 ∧ Put d B' s₁ T' ∧ Laid B B' q (q + len) (fun j => Value.int (lo8 (cv A (o + (j - q))))) ∧
      Steps p.tables e below (s₁.setTop (entryFrame m #[.ref b, .int (Int32.ofNat o), .ref d, .int (Int32.ofNat q), .int (Int32.ofNat len)] 7)) (T'.setTop (mkF m 3 #[.val (.ref b), .val (.int (Int32.ofNat (o + len))), .val (.ref d), .val (.int (Int32.ofNat (q + len))), .val (.int (Int32.ofNat len)), .val (.int (Int32.ofNat len)), z'] [])) := by
    intro r
    induction r with
    | zero =>
      intro i hi z hz Tl Bk Xl pl fl cl
      have hil : i = len := by omega
      rw [hil] at Xl fl cl
      exact ⟨Tl, Bk, z, Xl, pl, fl, cl⟩
    | succ r ih =>
      intro i hi z hz Tl Bk Xl pl fl cl
      have all := X0.warmed.alike.symm.trans Xl.warmed.alike
      have hAl := hA0.keep all (pl.other hne hA0.1)
      have hBk := hB0.like all pl.1 fl.1 fl.2.1 fl.2.2.1
      have hlt : q + i < Bk.slots.size := by rw [fl.2.2.1]; omega
      have c3 : Steps p.tables e below (s₁.setTop (entryFrame m #[.ref b, .int (Int32.ofNat o), .ref d, .int (Int32.ofNat q), .int (Int32.ofNat len)] 7)) (Tl.setTop (mkF m 12 #[.val (.ref b), .val (.int (Int32.ofNat (o + i))), .val (.ref d), .val (.int (Int32.ofNat (q + i))), .val (.int (Int32.ofNat len)), .val (.int (Int32.ofNat i)), z] [.int (Int32.ofNat (o + i)), .ref b])) := cl.trans (by
        refine XS.iload Xl.here hexec rfl (hb hbytes d3) rfl ?_
        refine XS.iload Xl.here hexec rfl (hb hbytes d5) rfl ?_
        refine XS.icmpNo Xl.here hexec rfl (hb hbytes d7) rfl (ii_ge_f (lt32 (by omega) (by omega))) ?_
        refine XS.aloadN Xl.here hexec rfl (hb hbytes d10) rfl rfl ?_
        refine XS.iloadN Xl.here hexec rfl (hb hbytes d11) rfl ?_
        exact Steps.refl _)
      have c4 : Steps p.tables e below (s₁.setTop (entryFrame m #[.ref b, .int (Int32.ofNat o), .ref d, .int (Int32.ofNat q), .int (Int32.ofNat len)] 7)) (Tl.setTop (mkF m 13 #[.val (.ref b), .val (.int (Int32.ofNat (o + i))), .val (.ref d), .val (.int (Int32.ofNat (q + i))), .val (.int (Int32.ofNat len)), .val (.int (Int32.ofNat i)), z] [.int (cv A (o + i))])) := c3.trans (by
        refine Xl.aget hexec hAl rfl (hA.get (i := o + i) (by omega)) rfl rfl (hb hbytes d12) ?_
        exact Steps.refl _)
      have c5 : Steps p.tables e below (s₁.setTop (entryFrame m #[.ref b, .int (Int32.ofNat o), .ref d, .int (Int32.ofNat q), .int (Int32.ofNat len)] 7)) (Tl.setTop (mkF m 15 #[.val (.ref b), .val (.int (Int32.ofNat (o + i))), .val (.ref d), .val (.int (Int32.ofNat (q + i))), .val (.int (Int32.ofNat len)), .val (.int (Int32.ofNat i)), .val (.int (cv A (o + i)))] [])) := c4.trans (by
        refine XS.istoreS Xl.here hexec rfl (hb hbytes d13) rfl rfl hz ?_
        exact Steps.refl _)
      have c6 : Steps p.tables e below (s₁.setTop (entryFrame m #[.ref b, .int (Int32.ofNat o), .ref d, .int (Int32.ofNat q), .int (Int32.ofNat len)] 7)) (Tl.setTop (mkF m 31 #[.val (.ref b), .val (.int (Int32.ofNat (o + i))), .val (.ref d), .val (.int (Int32.ofNat (q + i))), .val (.int (Int32.ofNat len)), .val (.int (Int32.ofNat i)), .val (.int (cv A (o + i)))] [.int (lo8 (cv A (o + i))), .int (Int32.ofNat (q + i)), .ref d])) := c5.trans (by
        refine XS.iload Xl.here hexec rfl (hb hbytes d15) rfl ?_
        refine sipushV Xl.here hexec rfl 255 (hb hbytes d17) (by decide) ?_
        refine XS.icmpYes Xl.here hexec rfl (pc0 := 20) rfl (hb hbytes d20) rfl (ii_le_t (hp i (by omega))) (by decide) rfl ?_
        refine XS.aloadN Xl.here hexec rfl (hb hbytes d26) rfl rfl ?_
        refine XS.iloadN Xl.here hexec rfl (hb hbytes d27) rfl ?_
        refine XS.iload Xl.here hexec rfl (hb hbytes d28) rfl ?_
        refine i2b Xl.here hexec rfl (hb hbytes d30) rfl ?_
        exact Steps.refl _)
      obtain ⟨T7, X7, p7, st7⟩ := Xl.aput hexec hBk rfl hlt rfl (fits_lo8 (cv A (o + i))) (g := (mkF m 31 #[.val (.ref b), .val (.int (Int32.ofNat (o + i))), .val (.ref d), .val (.int (Int32.ofNat (q + i))), .val (.int (Int32.ofNat len)), .val (.int (Int32.ofNat i)), .val (.int (cv A (o + i)))] [.int (lo8 (cv A (o + i))), .int (Int32.ofNat (q + i)), .ref d])) rfl (rest := []) rfl (hb hbytes d31)
      have c8 : Steps p.tables e below (s₁.setTop (entryFrame m #[.ref b, .int (Int32.ofNat o), .ref d, .int (Int32.ofNat q), .int (Int32.ofNat len)] 7)) (T7.setTop (mkF m 32 #[.val (.ref b), .val (.int (Int32.ofNat (o + i))), .val (.ref d), .val (.int (Int32.ofNat (q + i))), .val (.int (Int32.ofNat len)), .val (.int (Int32.ofNat i)), .val (.int (cv A (o + i)))] [])) := c6.trans (st7 _ (Steps.refl _))
      have c9 : Steps p.tables e below (s₁.setTop (entryFrame m #[.ref b, .int (Int32.ofNat o), .ref d, .int (Int32.ofNat q), .int (Int32.ofNat len)] 7)) (T7.setTop (mkF m 3 #[.val (.ref b), .val (.int (Int32.ofNat (o + i) + 1)), .val (.ref d), .val (.int (Int32.ofNat (q + i) + 1)), .val (.int (Int32.ofNat len)), .val (.int (Int32.ofNat i + 1)), .val (.int (cv A (o + i)))] [])) := c8.trans (by
        refine iincV X7.here hexec rfl 1 (hb hbytes d32) (by decide) rfl rfl ?_
        refine iincV X7.here hexec rfl 1 (hb hbytes d35) (by decide) rfl rfl ?_
        refine iincV X7.here hexec rfl 1 (hb hbytes d38) (by decide) rfl rfl ?_
        refine XS.goto X7.here hexec rfl (pc0 := 41) rfl (hb hbytes d41) (by decide) rfl ?_
        exact Steps.refl _)
      have c10 : Steps p.tables e below (s₁.setTop (entryFrame m #[.ref b, .int (Int32.ofNat o), .ref d, .int (Int32.ofNat q), .int (Int32.ofNat len)] 7)) (T7.setTop (mkF m 3 #[.val (.ref b), .val (.int (Int32.ofNat (o + (i + 1)))), .val (.ref d), .val (.int (Int32.ofNat (q + (i + 1)))), .val (.int (Int32.ofNat len)), .val (.int (Int32.ofNat (i + 1))), .val (.int (cv A (o + i)))] [])) := by
        have := c9
        rw [succ32, succ32, succ32] at this
        exact this
      exact ih (i + 1) (by omega) _ (Or.inr ⟨_, rfl, rfl⟩) T7 _ (by rw [copyLocs_step, ← List.append_assoc]; exact X7) (pl.trans p7) (fl.step (by omega) hlt (by simp)) c10
  obtain ⟨T9, B9, z9, X9, p9, f9, g9⟩ := loop len 0 (by omega) .unset (Or.inl rfl) s₁ B (by simpa [copyLocs] using X0) ⟨hB0.1, fun _ _ => rfl, rfl⟩ (Laid.zero _ _ _) c2
  have c11 : Steps p.tables e below (s₁.setTop (entryFrame m #[.ref b, .int (Int32.ofNat o), .ref d, .int (Int32.ofNat q), .int (Int32.ofNat len)] 7)) (T9.setTop (mkF m 46 #[.val (.ref b), .val (.int (Int32.ofNat (o + len))), .val (.ref d), .val (.int (Int32.ofNat (q + len))), .val (.int (Int32.ofNat len)), .val (.int (Int32.ofNat len)), z9] [.int (Int32.ofNat len)])) := g9.trans (by
    refine XS.iload X9.here hexec rfl (hb hbytes d3) rfl ?_
    refine XS.iload X9.here hexec rfl (hb hbytes d5) rfl ?_
    refine XS.icmpYes X9.here hexec rfl (pc0 := 7) rfl (hb hbytes d7) rfl (ii_ge_t (nlt32 (by omega) (Nat.le_refl _))) (by decide) rfl ?_
    refine XS.iload X9.here hexec rfl (hb hbytes d44) rfl ?_
    exact Steps.refl _)
  exact ⟨T9, some (.int (Int32.ofNat len)), _, _, _, X9, by simp, rfl, rfl, (fun h => by cases h), ⟨rfl, B9, p9.from hh0, f9⟩, fun fs hl => c11.trans (X9.ireturnOut hexec hret rfl (Or.inl rfl) (hb hbytes d46) hl)⟩
end Cmp5
namespace Cmp3
def yN : MethodName := ⟨"java/lang/StringUTF16", "compress", "([CII)[B"⟩
abbrev yB : ByteArray := jdk_52_method_16_code
theorem d0 : decode yB 0 = .ok (.iload_n 2, 1) := by decide +kernel
theorem d1 : decode yB 1 = .ok (.newarray .byte, 2) := by decide +kernel
theorem d3 : decode yB 3 = .ok (.astore_n 3, 1) := by decide +kernel
theorem d4 : decode yB 4 = .ok (.aload_n 0, 1) := by decide +kernel
theorem d5 : decode yB 5 = .ok (.iload_n 1, 1) := by decide +kernel
theorem d6 : decode yB 6 = .ok (.aload_n 3, 1) := by decide +kernel
theorem d7 : decode yB 7 = .ok (.iconst 0, 1) := by decide +kernel
theorem d8 : decode yB 8 = .ok (.iload_n 2, 1) := by decide +kernel
theorem d9 : decode yB 9 = .ok (.invokestatic 115, 3) := by decide +kernel
theorem d12 : decode yB 12 = .ok (.istore 4, 2) := by decide +kernel
theorem d14 : decode yB 14 = .ok (.iload 4, 2) := by decide +kernel
theorem d16 : decode yB 16 = .ok (.iload_n 2, 1) := by decide +kernel
theorem d17 : decode yB 17 = .ok (.if_icmp (.eq) 40, 3) := by decide +kernel
theorem d57 : decode yB 57 = .ok (.aload_n 3, 1) := by decide +kernel
theorem d58 : decode yB 58 = .ok (.areturn, 1) := by decide +kernel
def site : List Cond := [.arrayClass .byte, Cmp5.tab] ++ staticW U16 115 Cmp5.yN
def tab : Cond := tabOf yN yB 6 (some (.array .byte)) site
def P (b : Addr) (A : Cell) (o len : Nat) (args : Array Value) (s : State) : Prop := args = #[.ref b, .int (Int32.ofNat o), .int (Int32.ofNat len)] ∧ Ch b A s ∧ o + len ≤ A.slots.size ∧ len ≤ 536870912 ∧ ∀ i, i < len → ¬ 255 < cv A (o + i)
def E (b : Addr) (A : Cell) (o len : Nat) (r : Option Value) (s u : State) : Prop := NewArr .byte "[B" len (fun j => .int (lo8 (cv A (o + j)))) r s u ∧ u.heap.size = s.heap.size + 1
/-- no char of the range above 255: a new byte[] of their low bytes -/
theorem law (l : Launch) (b : Addr) (A : Cell) (o len : Nat) : Law l yN 3 3 1 18 yB 6 (some (.array .byte)) site (P b A o len) (E b A o len) [] 1 len := by
  refine Law.of_walk (plainFor_of_name (by decide +kernel)) (by decide +kernel) (by decide +kernel) (by decide) (fun _ _ h => by rw [h.1]; rfl) (fun _ U U' hal hh h => ⟨h.1, h.2.1.mv hal hh, h.2.2⟩) (fun r U U' V V' h1 hal h2 h => ⟨NewArr.mv r U U' V V' h1 hal h2 h.1, by rw [h1, h2]; exact h.2⟩) ?_
  intro p e s m args below meth c s₁ X0 hexec hbytes hml hret hlk hnm hown hh0 W hP
  obtain ⟨rfl, hA, l1, l2, hp⟩ := hP
  have a31 := hA.1.2.2.2
  have c1 : Steps p.tables e below (s₁.setTop (entryFrame m #[.ref b, .int (Int32.ofNat o), .int (Int32.ofNat len)] 6)) (s₁.setTop (mkF m 0 #[.val (.ref b), .val (.int (Int32.ofNat o)), .val (.int (Int32.ofNat len)), .unset, .unset, .unset] [])) := entry rfl
  have c2 : Steps p.tables e below (s₁.setTop (entryFrame m #[.ref b, .int (Int32.ofNat o), .int (Int32.ofNat len)] 6)) (s₁.setTop (mkF m 1 #[.val (.ref b), .val (.int (Int32.ofNat o)), .val (.int (Int32.ofNat len)), .unset, .unset, .unset] [.int (Int32.ofNat len)])) := c1.trans (by
    refine XS.iloadN X0.here hexec rfl (hb hbytes d0) rfl ?_
    exact Steps.refl _)
  obtain ⟨T3, B3, X3, ba3, bs3, bv3, bh3, bf3, st3⟩ := X0.anew hexec (atype := .byte) (wk W (.arrayClass .byte)) rfl (by show len * 1 ≤ _; omega) (by omega) (g := (mkF m 1 #[.val (.ref b), .val (.int (Int32.ofNat o)), .val (.int (Int32.ofNat len)), .unset, .unset, .unset] [.int (Int32.ofNat len)])) rfl (hb hbytes d1) (rest := []) rfl (Nat.le_refl _) (by show 0 + len ≤ len; omega)
  rw [hh0] at ba3 st3
  have kp3 : XT.Kept s T3 := (XT.Kept.of_eq hh0).push bh3
  have hA3 := hA.keep X3.warmed.alike (kp3 _ _ hA.1.1)
  have hne : b ≠ s.heap.size := hA.1.ne
  have c4 : Steps p.tables e below (s₁.setTop (entryFrame m #[.ref b, .int (Int32.ofNat o), .int (Int32.ofNat len)] 6)) (T3.setTop (mkF m 3 #[.val (.ref b), .val (.int (Int32.ofNat o)), .val (.int (Int32.ofNat len)), .unset, .unset, .unset] [.ref s.heap.size])) := c2.trans (st3 _ (Steps.refl _))
  have c5 : Steps p.tables e below (s₁.setTop (entryFrame m #[.ref b, .int (Int32.ofNat o), .int (Int32.ofNat len)] 6)) (T3.setTop (mkF m 9 #[.val (.ref b), .val (.int (Int32.ofNat o)), .val (.int (Int32.ofNat len)), .val (.ref s.heap.size), .unset, .unset] [.int (Int32.ofNat len), .int 0, .ref s.heap.size, .int (Int32.ofNat o), .ref b])) := c4.trans (by
    refine XS.astoreN X3.here hexec rfl (hb hbytes d3) rfl rfl rfl ?_
    refine XS.aloadN X3.here hexec rfl (hb hbytes d4) rfl rfl ?_
    refine XS.iloadN X3.here hexec rfl (hb hbytes d5) rfl ?_
    refine XS.aloadN X3.here hexec rfl (hb hbytes d6) rfl rfl ?_
    refine iconstV X3.here hexec rfl 0 (hb hbytes d7) (by decide) ?_
    refine XS.iloadN X3.here hexec rfl (hb hbytes d8) rfl ?_
    exact Steps.refl _)
  obtain ⟨v6, T6, X6, E6, g6⟩ := X3.callS hexec (Cmp5.law l b A s.heap.size B3 o 0 len) hown (wks W (staticW U16 115 Cmp5.yN)) (wk W Cmp5.tab) (W := 0) (Nat.le_of_ble_eq_true rfl) (Nat.le_of_ble_eq_true rfl) (Nat.le_refl _) (by show 0 + len + 0 ≤ len; omega) (g := (mkF m 9 #[.val (.ref b), .val (.int (Int32.ofNat o)), .val (.int (Int32.ofNat len)), .val (.ref s.heap.size), .unset, .unset] [.int (Int32.ofNat len), .int (Int32.ofNat 0), .ref s.heap.size, .int (Int32.ofNat o), .ref b])) rfl (by rw [hml]; rfl) c5 (argsL := [.ref b, .int (Int32.ofNat o), .ref s.heap.size, .int (Int32.ofNat 0), .int (Int32.ofNat len)]) (rest := []) rfl rfl (by show 2 * 0 + 0 ≤ _; decide) (hb hbytes d9) (⟨rfl, hA3, ba3, hne, l1, by rw [bs3]; simp, hp⟩)
  obtain ⟨rfl, B6, p6, f6⟩ := E6
  have c7 : Steps p.tables e below (s₁.setTop (entryFrame m #[.ref b, .int (Int32.ofNat o), .int (Int32.ofNat len)] 6)) (T6.setTop (mkF m 12 #[.val (.ref b), .val (.int (Int32.ofNat o)), .val (.int (Int32.ofNat len)), .val (.ref s.heap.size), .unset, .unset] [.int (Int32.ofNat len)])) := g6
  have c8 : Steps p.tables e below (s₁.setTop (entryFrame m #[.ref b, .int (Int32.ofNat o), .int (Int32.ofNat len)] 6)) (T6.setTop (mkF m 58 #[.val (.ref b), .val (.int (Int32.ofNat o)), .val (.int (Int32.ofNat len)), .val (.ref s.heap.size), .val (.int (Int32.ofNat len)), .unset] [.ref s.heap.size])) := c7.trans (by
    refine XS.istore X6.here hexec rfl (hb hbytes d12) rfl rfl ?_
    refine XS.iload X6.here hexec rfl (hb hbytes d14) rfl ?_
    refine XS.iloadN X6.here hexec rfl (hb hbytes d16) rfl ?_
    refine XS.icmpYes X6.here hexec rfl (pc0 := 17) rfl (hb hbytes d17) rfl (ii_eq_t rfl) (by decide) rfl ?_
    refine XS.aloadN X6.here hexec rfl (hb hbytes d57) rfl rfl ?_
    exact Steps.refl _)
  have X8 := X6.wide (L' := []) (cells' := 1) (slots' := len) (fun x hx hlt => by
    simp only [List.nil_append, copyLocs, List.mem_map, List.mem_range] at hx
    obtain ⟨i, -, rfl⟩ := hx
    exact absurd hlt (Nat.lt_irrefl _)) (Nat.le_refl _) (by omega)
  exact ⟨T6, some (.ref s.heap.size), _, _, _, X8, rfl, rfl, rfl, (fun h => by cases h), ⟨⟨rfl, B6, ba3.like (X3.warmed.alike.symm.trans X6.warmed.alike) p6.1 f6.1 f6.2.1 f6.2.2.1, f6.2.1.trans bv3, by rw [X6.warmed.alike.findClass, f6.1]; exact bf3, by rw [f6.2.2.1, bs3]; simp, fun j hj => by rw [f6.2.2.2 j, if_pos (by omega)]; rfl, kp3.put p6 (Nat.le_refl _)⟩, by rw [p6.2.2, bh3, hh0]; simp⟩, fun fs hl => c8.trans (X8.areturnOut hexec rfl hret rfl (hb hbytes d58) hl)⟩
end Cmp3
namespace CodL
def yN : MethodName := ⟨"java/lang/StringUTF16", "coderFromArrayLen", "([BI)B"⟩
abbrev yB : ByteArray := jdk_52_method_15_code
theorem d0 : decode yB 0 = .ok (.iload_n 1, 1) := by decide +kernel
theorem d1 : decode yB 1 = .ok (.aload_n 0, 1) := by decide +kernel
theorem d2 : decode yB 2 = .ok (.arraylength, 1) := by decide +kernel
theorem d3 : decode yB 3 = .ok (.isub, 1) := by decide +kernel
theorem d4 : decode yB 4 = .ok (.bipush 31, 2) := by decide +kernel
theorem d6 : decode yB 6 = .ok (.iushr, 1) := by decide +kernel
theorem d7 : decode yB 7 = .ok (.i2b, 1) := by decide +kernel
theorem d8 : decode yB 8 = .ok (.ireturn, 1) := by decide +kernel
def site : List Cond := []
def tab : Cond := tabOf yN yB 2 (some .byte) site
def P (d : Addr) (B : Cell) (args : Array Value) (s : State) : Prop := args = #[.ref d, .int (Int32.ofNat B.slots.size)] ∧ Arr .byte d B s
def E (r : Option Value) (s u : State) : Prop := XT.PureE (some (.int 0)) r s u
/-- an array as long as the number of chars: LATIN1 -/
theorem law (l : Launch) (d : Addr) (B : Cell) : Law l yN 2 2 0 0 yB 2 (some .byte) site (P d B) E [] 0 0 := by
  refine Law.of_walk (plainFor_of_name (by decide +kernel)) (by decide +kernel) (by decide +kernel) (by decide) (fun _ _ h => by rw [h.1]; rfl) (fun _ U U' hal hh h => ⟨h.1, h.2.mv hal hh⟩) (fun r U U' V V' h1 hal h2 h => XT.PureE.mv r U U' V V' h1 hal h2 h) ?_
  intro p e s m args below meth c s₁ X0 hexec hbytes hml hret hlk hnm hown hh0 W hP
  obtain ⟨rfl, hB⟩ := hP
  have hB0 := hB.mv X0.warmed.alike hh0
  have c1 : Steps p.tables e below (s₁.setTop (entryFrame m #[.ref d, .int (Int32.ofNat B.slots.size)] 2)) (s₁.setTop (mkF m 0 #[.val (.ref d), .val (.int (Int32.ofNat B.slots.size))] [])) := entry rfl
  have c2 : Steps p.tables e below (s₁.setTop (entryFrame m #[.ref d, .int (Int32.ofNat B.slots.size)] 2)) (s₁.setTop (mkF m 2 #[.val (.ref d), .val (.int (Int32.ofNat B.slots.size))] [.ref d, .int (Int32.ofNat B.slots.size)])) := c1.trans (by
    refine XS.iloadN X0.here hexec rfl (hb hbytes d0) rfl ?_
    refine XS.aloadN X0.here hexec rfl (hb hbytes d1) rfl rfl ?_
    exact Steps.refl _)
  have c3 : Steps p.tables e below (s₁.setTop (entryFrame m #[.ref d, .int (Int32.ofNat B.slots.size)] 2)) (s₁.setTop (mkF m 8 #[.val (.ref d), .val (.int (Int32.ofNat B.slots.size))] [.int (lo8 (ushr (Int32.ofNat B.slots.size - Int32.ofNat B.slots.size) 31))])) := c2.trans (by
    refine X0.alen hexec hB0 rfl rfl (hb hbytes d2) ?_
    refine XS.isub X0.here hexec rfl (hb hbytes d3) rfl ?_
    refine bipushV X0.here hexec rfl 31 (hb hbytes d4) (by decide) ?_
    refine iushr X0.here hexec rfl (hb hbytes d6) rfl ?_
    refine i2b X0.here hexec rfl (hb hbytes d7) rfl ?_
    exact Steps.refl _)
  have e0 : lo8 (ushr (Int32.ofNat B.slots.size - Int32.ofNat B.slots.size) 31) = 0 := by rw [Int32.sub_self]; decide
  rw [e0] at c3
  exact ⟨s₁, some (.int 0), _, _, _, X0, rfl, rfl, rfl, (fun h => by cases h), ⟨rfl, hh0⟩, fun fs hl => c3.trans (X0.ireturnOut hexec hret rfl (Or.inr (Or.inr (Or.inl rfl))) (hb hbytes d8) hl)⟩
end CodL
/-- the String at a is Latin-1 over a new byte[] (the heap's one new cell): the low bytes of the len chars of A from o on; every cell but a is kept -/
def Got (a : Addr) (D : Cell) (fV fC : Field) (A : Cell) (o len : Nat) (r : Option Value) (s u : State) : Prop := r = none ∧ ∃ D' V : Cell, Blank "java/lang/String" a D' u ∧ Same D D' [fV.slot, fC.slot] ∧ D'.slots[fV.slot]? = some (.ref s.heap.size) ∧ D'.slots[fC.slot]? = some (.int 0) ∧ Arr .byte s.heap.size V u ∧ V.vm = .none ∧ u.vm.findClass "[B" = some V.cls ∧ V.slots.size = len ∧ (∀ j, j < len → V.slots[j]? = some (.int (lo8 (cv A (o + j))))) ∧ (∀ (y : Addr) (c : Cell), y ≠ a → s.heap[y]? = some c → u.heap[y]? = some c) ∧ u.heap.size = s.heap.size + 1
theorem Got.mv {a : Addr} {D A : Cell} {fV fC : Field} {o len : Nat} : ∀ r (U U' V V' : State), U'.heap = U.heap → V.vm.Alike V'.vm → V'.heap = V.heap → Got a D fV fC A o len r U V → Got a D fV fC A o len r U' V' :=
  fun r U U' V V' h1 hal h2 ⟨e0, D', X, a1, a2, a3, a4, a5, a6, a7, a8, a9, a10, a11⟩ => ⟨e0, D', X, a1.mv hal h2, a2, by rw [h1]; exact a3, a4, by rw [h1]; exact a5.mv hal h2, a6, by rw [hal.findClass]; exact a7, a8, a9, by rw [h1, h2]; exact a10, by rw [h1, h2]; exact a11⟩
namespace New4
def yN : MethodName := ⟨"java/lang/String", "<init>", "([CIILjava/lang/Void;)V"⟩
abbrev yB : ByteArray := jdk_42_method_149_code
theorem d0 : decode yB 0 = .ok (.aload_n 0, 1) := by decide +kernel
theorem d1 : decode yB 1 = .ok (.invokespecial 1, 3) := by decide +kernel
theorem d4 : decode yB 4 = .ok (.iload_n 3, 1) := by decide +kernel
theorem d5 : decode yB 5 = .ok (.ifCond (.ne) 22, 3) := by decide +kernel
theorem d27 : decode yB 27 = .ok (.getstatic 38, 3) := by decide +kernel
theorem d30 : decode yB 30 = .ok (.ifCond (.eq) 28, 3) := by decide +kernel
theorem d33 : decode yB 33 = .ok (.aload_n 1, 1) := by decide +kernel
theorem d34 : decode yB 34 = .ok (.iload_n 2, 1) := by decide +kernel
theorem d35 : decode yB 35 = .ok (.iload_n 3, 1) := by decide +kernel
theorem d36 : decode yB 36 = .ok (.invokestatic 177, 3) := by decide +kernel
theorem d39 : decode yB 39 = .ok (.astore 5, 2) := by decide +kernel
theorem d41 : decode yB 41 = .ok (.aload_n 0, 1) := by decide +kernel
theorem d42 : decode yB 42 = .ok (.aload 5, 2) := by decide +kernel
theorem d44 : decode yB 44 = .ok (.iload_n 3, 1) := by decide +kernel
theorem d45 : decode yB 45 = .ok (.invokestatic 47, 3) := by decide +kernel
theorem d48 : decode yB 48 = .ok (.putfield 15, 3) := by decide +kernel
theorem d51 : decode yB 51 = .ok (.aload_n 0, 1) := by decide +kernel
theorem d52 : decode yB 52 = .ok (.aload 5, 2) := by decide +kernel
theorem d54 : decode yB 54 = .ok (.putfield 9, 3) := by decide +kernel
theorem d57 : decode yB 57 = .ok (.return_, 1) := by decide +kernel
def site : List Cond := [.fieldLink "java/lang/String" 38 "java/lang/String" "COMPACT_STRINGS" "Z", Cmp3.tab, CodL.tab, .laysFinal "java/lang/String" "java/lang/String" "value" "[B", .fieldLink "java/lang/String" 9 "java/lang/String" "value" "[B", .laysFinal "java/lang/String" "java/lang/String" "coder" "B", .fieldLink "java/lang/String" 15 "java/lang/String" "coder" "B"] ++ objW "java/lang/String" 1 ++ staticW "java/lang/String" 177 Cmp3.yN ++ staticW "java/lang/String" 47 CodL.yN
def tab : Cond := tabOf yN yB 6 none site
def P (a : Addr) (D : Cell) (fV fC : Field) (b : Addr) (A : Cell) (z : Int32) (o len : Nat) (args : Array Value) (s : State) : Prop := args = #[.ref a, .ref b, .int (Int32.ofNat o), .int (Int32.ofNat len), .null] ∧ Blank "java/lang/String" a D s ∧ Found "java/lang/String" "value" "[B" fV s ∧ Found "java/lang/String" "coder" "B" fC s ∧ Ch b A s ∧ StaticIs s "java/lang/String" "COMPACT_STRINGS" "Z" (.int z) ∧ ¬ z = 0 ∧ 0 < len ∧ o + len ≤ A.slots.size ∧ len ≤ 536870912 ∧ ∀ i, i < len → ¬ 255 < cv A (o + i)
def E (a : Addr) (D : Cell) (fV fC : Field) (A : Cell) (o len : Nat) (r : Option Value) (s u : State) : Prop := Got a D fV fC A o len r s u
/-- len > 0, no char of the range above 255: a Latin-1 String of their low bytes -/
theorem law (l : Launch) (a : Addr) (D : Cell) (fV fC : Field) (b : Addr) (A : Cell) (z : Int32) (o len : Nat) : Law l yN 5 4 2 35 yB 6 none site (P a D fV fC b A z o len) (E a D fV fC A o len) [⟨a, fC.slot⟩, ⟨a, fV.slot⟩] 1 len := by
  refine Law.of_walk (plainFor_of_name (by decide +kernel)) (by decide +kernel) (by decide +kernel) (by decide) (fun _ _ h => by rw [h.1]; rfl) (fun _ U U' hal hh h => ⟨h.1, h.2.1.mv hal hh, h.2.2.1.al hal, h.2.2.2.1.al hal, h.2.2.2.2.1.mv hal hh, h.2.2.2.2.2.1.there hal hh, h.2.2.2.2.2.2⟩) (fun r U U' V V' h1 hal h2 h => Got.mv r U U' V V' h1 hal h2 h) ?_
  intro p e s m args below meth c s₁ X0 hexec hbytes hml hret hlk hnm hown hh0 W hP
  obtain ⟨rfl, hB, f1, f2, hA, s1, hz, l0, l1, l2, hp⟩ := hP
  have a31 := hA.1.2.2.2
  have c1 : Steps p.tables e below (s₁.setTop (entryFrame m #[.ref a, .ref b, .int (Int32.ofNat o), .int (Int32.ofNat len), .null] 6)) (s₁.setTop (mkF m 0 #[.val (.ref a), .val (.ref b), .val (.int (Int32.ofNat o)), .val (.int (Int32.ofNat len)), .val .null, .unset] [])) := entry rfl
  have c2 : Steps p.tables e below (s₁.setTop (entryFrame m #[.ref a, .ref b, .int (Int32.ofNat o), .int (Int32.ofNat len), .null] 6)) (s₁.setTop (mkF m 1 #[.val (.ref a), .val (.ref b), .val (.int (Int32.ofNat o)), .val (.int (Int32.ofNat len)), .val .null, .unset] [.ref a])) := c1.trans (by
    refine XS.aloadN X0.here hexec rfl (hb hbytes d0) rfl rfl ?_
    exact Steps.refl _)
  obtain ⟨T3, X3, q3, st3⟩ := X0.oinit hexec hown (wks W (objW "java/lang/String" 1)) (g := (mkF m 1 #[.val (.ref a), .val (.ref b), .val (.int (Int32.ofNat o)), .val (.int (Int32.ofNat len)), .val .null, .unset] [.ref a])) rfl (by rw [hml]; rfl) (rest := []) rfl (hb hbytes d1) (W := 0) (by show 2 * 0 + 0 ≤ _; decide) (Nat.le_of_ble_eq_true rfl) (Nat.le_of_ble_eq_true rfl)
  have hh3 := q3.trans hh0
  have c4 : Steps p.tables e below (s₁.setTop (entryFrame m #[.ref a, .ref b, .int (Int32.ofNat o), .int (Int32.ofNat len), .null] 6)) (T3.setTop (mkF m 27 #[.val (.ref a), .val (.ref b), .val (.int (Int32.ofNat o)), .val (.int (Int32.ofNat len)), .val .null, .unset] [])) := (c2.trans (st3 _ (Steps.refl _))).trans (by
    refine XS.iloadN X3.here hexec rfl (hb hbytes d4) rfl ?_
    refine XS.ifYes X3.here hexec rfl (pc0 := 5) rfl (hb hbytes d5) rfl (i0_ne_t (nz32 (by omega) l0)) (by decide) rfl ?_
    exact Steps.refl _)
  obtain ⟨T5, X5, q5, st5⟩ := X3.sget hexec hown (wk W (.fieldLink "java/lang/String" 38 "java/lang/String" "COMPACT_STRINGS" "Z")) s1 (fun _ _ h => by rw [hh3]; exact h) (g := (mkF m 27 #[.val (.ref a), .val (.ref b), .val (.int (Int32.ofNat o)), .val (.int (Int32.ofNat len)), .val .null, .unset] [])) rfl (hb hbytes d27)
  have hh5 := q5.trans hh3
  have c6 : Steps p.tables e below (s₁.setTop (entryFrame m #[.ref a, .ref b, .int (Int32.ofNat o), .int (Int32.ofNat len), .null] 6)) (T5.setTop (mkF m 30 #[.val (.ref a), .val (.ref b), .val (.int (Int32.ofNat o)), .val (.int (Int32.ofNat len)), .val .null, .unset] [.int z])) := c4.trans (st5 _ (Steps.refl _))
  have c7 : Steps p.tables e below (s₁.setTop (entryFrame m #[.ref a, .ref b, .int (Int32.ofNat o), .int (Int32.ofNat len), .null] 6)) (T5.setTop (mkF m 36 #[.val (.ref a), .val (.ref b), .val (.int (Int32.ofNat o)), .val (.int (Int32.ofNat len)), .val .null, .unset] [.int (Int32.ofNat len), .int (Int32.ofNat o), .ref b])) := c6.trans (by
    refine XS.ifNo X5.here hexec rfl (hb hbytes d30) rfl (i0_eq_f hz) ?_
    refine XS.aloadN X5.here hexec rfl (hb hbytes d33) rfl rfl ?_
    refine XS.iloadN X5.here hexec rfl (hb hbytes d34) rfl ?_
    refine XS.iloadN X5.here hexec rfl (hb hbytes d35) rfl ?_
    exact Steps.refl _)
  obtain ⟨v8, T8, X8, E8, g8⟩ := X5.callS hexec (Cmp3.law l b A o len) hown (wks W (staticW "java/lang/String" 177 Cmp3.yN)) (wk W Cmp3.tab) (W := 0) (Nat.le_of_ble_eq_true rfl) (Nat.le_of_ble_eq_true rfl) (Nat.le_refl _) (by show 0 + len ≤ len; omega) (g := (mkF m 36 #[.val (.ref a), .val (.ref b), .val (.int (Int32.ofNat o)), .val (.int (Int32.ofNat len)), .val .null, .unset] [.int (Int32.ofNat len), .int (Int32.ofNat o), .ref b])) rfl (by rw [hml]; rfl) c7 (argsL := [.ref b, .int (Int32.ofNat o), .int (Int32.ofNat len)]) (rest := []) rfl rfl (by show 2 * 0 + 0 ≤ _; decide) (hb hbytes d36) (⟨rfl, hA.mv X5.warmed.alike hh5, l1, l2, hp⟩)
  obtain ⟨e8, z8⟩ := E8
  obtain ⟨rfl, N, n1, n2, n3, n4, n5, n6⟩ := NewArr.mv _ T5 s _ _ hh5.symm (Vm.Alike.refl _) rfl e8
  rw [hh5] at z8
  have hB1 := hB.keep X8.warmed.alike (n6 _ _ hB.1)
  have hne : s.heap.size ≠ a := (Nat.ne_of_lt (Array.getElem?_eq_some_iff.mp hB.1).1).symm
  have c9 : Steps p.tables e below (s₁.setTop (entryFrame m #[.ref a, .ref b, .int (Int32.ofNat o), .int (Int32.ofNat len), .null] 6)) (T8.setTop (mkF m 39 #[.val (.ref a), .val (.ref b), .val (.int (Int32.ofNat o)), .val (.int (Int32.ofNat len)), .val .null, .unset] [.ref s.heap.size])) := g8
  have c10 : Steps p.tables e below (s₁.setTop (entryFrame m #[.ref a, .ref b, .int (Int32.ofNat o), .int (Int32.ofNat len), .null] 6)) (T8.setTop (mkF m 45 #[.val (.ref a), .val (.ref b), .val (.int (Int32.ofNat o)), .val (.int (Int32.ofNat len)), .val .null, .val (.ref s.heap.size)] [.int (Int32.ofNat N.slots.size), .ref s.heap.size, .ref a])) := by
    have hc : Steps p.tables e below (s₁.setTop (entryFrame m #[.ref a, .ref b, .int (Int32.ofNat o), .int (Int32.ofNat len), .null] 6)) (T8.setTop (mkF m 45 #[.val (.ref a), .val (.ref b), .val (.int (Int32.ofNat o)), .val (.int (Int32.ofNat len)), .val .null, .val (.ref s.heap.size)] [.int (Int32.ofNat len), .ref s.heap.size, .ref a])) := c9.trans (by
      refine XS.astore X8.here hexec rfl (hb hbytes d39) rfl rfl rfl ?_
      refine XS.aloadN X8.here hexec rfl (hb hbytes d41) rfl rfl ?_
      refine XS.aload X8.here hexec rfl (hb hbytes d42) rfl rfl ?_
      refine XS.iloadN X8.here hexec rfl (hb hbytes d44) rfl ?_
      exact Steps.refl _)
    rw [n4]; exact hc
  obtain ⟨v11, T11, X11, E11, g11⟩ := X8.callS hexec (CodL.law l s.heap.size N) hown (wks W (staticW "java/lang/String" 47 CodL.yN)) (wk W CodL.tab) (W := 1) (Nat.le_of_ble_eq_true rfl) (Nat.le_of_ble_eq_true rfl) (Nat.le_refl _) (by show 0 + len + 0 ≤ len; omega) (g := (mkF m 45 #[.val (.ref a), .val (.ref b), .val (.int (Int32.ofNat o)), .val (.int (Int32.ofNat len)), .val .null, .val (.ref s.heap.size)] [.int (Int32.ofNat N.slots.size), .ref s.heap.size, .ref a])) rfl (by rw [hml]; rfl) c10 (argsL := [.ref s.heap.size, .int (Int32.ofNat N.slots.size)]) (rest := [.ref a]) rfl rfl (by show 2 * 0 + (1 + 0) ≤ _; decide) (hb hbytes d45) (⟨rfl, n1⟩)
  obtain ⟨rfl, q11⟩ := E11
  have hB11 := hB1.mv (X8.warmed.alike.symm.trans X11.warmed.alike) q11
  have c12 : Steps p.tables e below (s₁.setTop (entryFrame m #[.ref a, .ref b, .int (Int32.ofNat o), .int (Int32.ofNat len), .null] 6)) (T11.setTop (mkF m 48 #[.val (.ref a), .val (.ref b), .val (.int (Int32.ofNat o)), .val (.int (Int32.ofNat len)), .val .null, .val (.ref s.heap.size)] [.int 0, .ref a])) := g11
  obtain ⟨T13, X13, p13, bl13, sl13, st13⟩ := X11.finit hexec hown (wk W (.fieldLink "java/lang/String" 15 "java/lang/String" "coder" "B")) (Or.inr ⟨_, (wk W (.laysFinal "java/lang/String" "java/lang/String" "coder" "B"))⟩) (Or.inl ⟨rfl, hnm⟩) f2 (Or.inl rfl) hB11 (t := .byte) (by decide +kernel) rfl (g := (mkF m 48 #[.val (.ref a), .val (.ref b), .val (.int (Int32.ofNat o)), .val (.int (Int32.ofNat len)), .val .null, .val (.ref s.heap.size)] [.int 0, .ref a])) rfl (rest := []) rfl (hb hbytes d48)
  have c14 : Steps p.tables e below (s₁.setTop (entryFrame m #[.ref a, .ref b, .int (Int32.ofNat o), .int (Int32.ofNat len), .null] 6)) (T13.setTop (mkF m 54 #[.val (.ref a), .val (.ref b), .val (.int (Int32.ofNat o)), .val (.int (Int32.ofNat len)), .val .null, .val (.ref s.heap.size)] [.ref s.heap.size, .ref a])) := (c12.trans (st13 _ (Steps.refl _))).trans (by
    refine XS.aloadN X13.here hexec rfl (hb hbytes d51) rfl rfl ?_
    refine XS.aload X13.here hexec rfl (hb hbytes d52) rfl rfl ?_
    exact Steps.refl _)
  obtain ⟨T15, X15, p15, bl15, sl15, st15⟩ := X13.finit hexec hown (wk W (.fieldLink "java/lang/String" 9 "java/lang/String" "value" "[B")) (Or.inr ⟨_, (wk W (.laysFinal "java/lang/String" "java/lang/String" "value" "[B"))⟩) (Or.inl ⟨rfl, hnm⟩) f1 (Or.inl rfl) bl13 (t := (.array .byte)) (by decide +kernel) rfl (g := (mkF m 54 #[.val (.ref a), .val (.ref b), .val (.int (Int32.ofNat o)), .val (.int (Int32.ofNat len)), .val .null, .val (.ref s.heap.size)] [.ref s.heap.size, .ref a])) rfl (rest := []) rfl (hb hbytes d54)
  have c16 : Steps p.tables e below (s₁.setTop (entryFrame m #[.ref a, .ref b, .int (Int32.ofNat o), .int (Int32.ofNat len), .null] 6)) (T15.setTop (mkF m 57 #[.val (.ref a), .val (.ref b), .val (.int (Int32.ofNat o)), .val (.int (Int32.ofNat len)), .val .null, .val (.ref s.heap.size)] [])) := c14.trans (st15 _ (Steps.refl _))
  have ap := apart (Or.inr ⟨_, (wk W (.laysFinal "java/lang/String" "java/lang/String" "value" "[B"))⟩) (Or.inr ⟨_, (wk W (.laysFinal "java/lang/String" "java/lang/String" "coder" "B"))⟩) f1 f2 (t₁ := .array .byte) (t₂ := .byte) (by decide +kernel) (by decide +kernel) (by decide)
  have al := X8.warmed.alike.symm.trans X15.warmed.alike
  have n7 : T11.heap[s.heap.size]? = some N := by rw [q11]; exact n1.1
  exact ⟨T15, none, _, _, _, X15, by simp, rfl, by omega, (fun _ => rfl), ⟨rfl, _, N, bl15, ((Same.refl D _).set _ (by simp)).set _ (by simp), sl15, (Cell.slots_setSlot_ne _ ap).trans sl13, n1.keep al (p15.other hne (p13.other hne n7)), n2, by rw [al.findClass]; exact n3, n4, n5, fun y c h1 h2 => p15.other h1 (p13.other h1 (by rw [q11]; exact n6 y c h2)), by rw [p15.2.2, p13.2.2, q11]; exact z8⟩, fun fs hl => c16.trans (X15.returnOut hexec hret (hb hbytes d57) hl)⟩
end New4
namespace New1
def yN : MethodName := ⟨"java/lang/String", "<init>", "([C)V"⟩
abbrev yB : ByteArray := jdk_42_method_3_code
theorem d0 : decode yB 0 = .ok (.aload_n 0, 1) := by decide +kernel
theorem d1 : decode yB 1 = .ok (.aload_n 1, 1) := by decide +kernel
theorem d2 : decode yB 2 = .ok (.iconst 0, 1) := by decide +kernel
theorem d3 : decode yB 3 = .ok (.aload_n 1, 1) := by decide +kernel
theorem d4 : decode yB 4 = .ok (.arraylength, 1) := by decide +kernel
theorem d5 : decode yB 5 = .ok (.aconst_null, 1) := by decide +kernel
theorem d6 : decode yB 6 = .ok (.invokespecial 27, 3) := by decide +kernel
theorem d9 : decode yB 9 = .ok (.return_, 1) := by decide +kernel
def site : List Cond := [New4.tab] ++ initW "java/lang/String" 27 New4.yN
def tab : Cond := tabOf yN yB 2 none site
def P (a : Addr) (D : Cell) (fV fC : Field) (b : Addr) (A : Cell) (z : Int32) (args : Array Value) (s : State) : Prop := args = #[.ref a, .ref b] ∧ Blank "java/lang/String" a D s ∧ Found "java/lang/String" "value" "[B" fV s ∧ Found "java/lang/String" "coder" "B" fC s ∧ Ch b A s ∧ StaticIs s "java/lang/String" "COMPACT_STRINGS" "Z" (.int z) ∧ ¬ z = 0 ∧ 0 < A.slots.size ∧ A.slots.size ≤ 536870912 ∧ ∀ i, i < A.slots.size → ¬ 255 < cv A i
def E (a : Addr) (D : Cell) (fV fC : Field) (A : Cell) (r : Option Value) (s u : State) : Prop := Got a D fV fC A 0 A.slots.size r s u
/-- new String(chars), not empty, no char above 255: a Latin-1 String of their low bytes -/
theorem law (l : Launch) (a : Addr) (D : Cell) (fV fC : Field) (b : Addr) (A : Cell) (z : Int32) : Law l yN 2 1 3 52 yB 2 none site (P a D fV fC b A z) (E a D fV fC A) [⟨a, fC.slot⟩, ⟨a, fV.slot⟩] 1 A.slots.size := by
  refine Law.of_walk (plainFor_of_name (by decide +kernel)) (by decide +kernel) (by decide +kernel) (by decide) (fun _ _ h => by rw [h.1]; rfl) (fun _ U U' hal hh h => ⟨h.1, h.2.1.mv hal hh, h.2.2.1.al hal, h.2.2.2.1.al hal, h.2.2.2.2.1.mv hal hh, h.2.2.2.2.2.1.there hal hh, h.2.2.2.2.2.2⟩) (fun r U U' V V' h1 hal h2 h => Got.mv r U U' V V' h1 hal h2 h) ?_
  intro p e s m args below meth c s₁ X0 hexec hbytes hml hret hlk hnm hown hh0 W hP
  obtain ⟨rfl, hB, f1, f2, hA, s1, hz, l0, l2, hp⟩ := hP
  have c1 : Steps p.tables e below (s₁.setTop (entryFrame m #[.ref a, .ref b] 2)) (s₁.setTop (mkF m 0 #[.val (.ref a), .val (.ref b)] [])) := entry rfl
  have c2 : Steps p.tables e below (s₁.setTop (entryFrame m #[.ref a, .ref b] 2)) (s₁.setTop (mkF m 6 #[.val (.ref a), .val (.ref b)] [.null, .int (Int32.ofNat A.slots.size), .int 0, .ref b, .ref a])) := c1.trans (by
    refine XS.aloadN X0.here hexec rfl (hb hbytes d0) rfl rfl ?_
    refine XS.aloadN X0.here hexec rfl (hb hbytes d1) rfl rfl ?_
    refine iconstV X0.here hexec rfl 0 (hb hbytes d2) (by decide) ?_
    refine XS.aloadN X0.here hexec rfl (hb hbytes d3) rfl rfl ?_
    refine X0.alen hexec (hA.1.mv X0.warmed.alike hh0) rfl rfl (hb hbytes d4) ?_
    refine XS.aconstNull X0.here hexec rfl (hb hbytes d5) ?_
    exact Steps.refl _)
  obtain ⟨v3, T3, X3, E3, g3⟩ := X0.callN hexec (New4.law l a D fV fC b A z 0 A.slots.size) rfl hown (wks W (initW "java/lang/String" 27 New4.yN)) (W New4.tab (by simp only [site, List.mem_cons, List.mem_append, true_or, or_true])) (W := 0) (Nat.le_of_ble_eq_true rfl) (Nat.le_of_ble_eq_true rfl) (Nat.le_refl _) (by show 0 + A.slots.size ≤ A.slots.size; omega) (g := (mkF m 6 #[.val (.ref a), .val (.ref b)] [.null, .int (Int32.ofNat A.slots.size), .int (Int32.ofNat 0), .ref b, .ref a])) rfl (by rw [hml]; rfl) c2 (argsL := [.ref b, .int (Int32.ofNat 0), .int (Int32.ofNat A.slots.size), .null]) (rest := []) rfl rfl (by show 2 * 0 + 0 ≤ _; decide) (hb hbytes d6) (⟨rfl, hB.mv X0.warmed.alike hh0, f1.al X0.warmed.alike, f2.al X0.warmed.alike, hA.mv X0.warmed.alike hh0, s1.there X0.warmed.alike hh0, hz, l0, by omega, l2, fun i hi => by rw [Nat.zero_add]; exact hp i hi⟩)
  have e0 := Got.mv _ s₁ s _ _ hh0.symm (Vm.Alike.refl _) rfl E3
  obtain rfl := e0.1
  have c4 : Steps p.tables e below (s₁.setTop (entryFrame m #[.ref a, .ref b] 2)) (T3.setTop (mkF m 9 #[.val (.ref a), .val (.ref b)] [])) := g3
  exact ⟨T3, none, _, _, _, X3, by simp, rfl, by omega, (fun _ => rfl), e0, fun fs hl => c4.trans (X3.returnOut hexec hret (hb hbytes d9) hl)⟩
theorem pays {l : Launch} {R : Room} {p : Program} {e : Env} {below : List Frame} {s : State} {sargs : Array Value} {len W : Nat} (a : Addr) (D : Cell) (fV fC : Field) (b : Addr) (A : Cell) (z : Int32) (htab : tab.before sargs s = true) (hfr : 4 ≤ R.frames) (hlo : W + 65 ≤ R.locals) :
    Back l R p e below s sargs yN len W (fun A₁ a₁ => A₁.cells + 1 ≤ R.cells ∧ A₁.slots + A.slots.size ≤ R.slots ∧ P a D fV fC b A z a₁ A₁.U) (fun A₁ _ v₁ B₁ => E a D fV fC A v₁ A₁.U B₁.U ∧ B₁.locs = A₁.locs ++ [⟨a, fC.slot⟩, ⟨a, fV.slot⟩] ∧ B₁.cells = A₁.cells + 1 ∧ B₁.slots = A₁.slots + A.slots.size) :=
  (law l a D fV fC b A z).pays htab hfr (by omega)
end New1
/-- the byte, read back as charAt reads it, is the char -/
theorem lo8_mask {x : Int32} (h0 : ¬ x < 0) (h1 : ¬ 255 < x) : lo8 x &&& 255 = x := by
  have t : ∀ k : Fin 256, lo8 (Int32.ofNat k.val) &&& 255 = Int32.ofNat k.val := by decide +kernel
  rw [Int32.lt_iff_toInt_lt] at h0 h1
  have e0 : (0 : Int32).toInt = 0 := rfl
  have e1 : (255 : Int32).toInt = 255 := rfl
  obtain ⟨k, hk⟩ : ∃ k : Nat, x.toInt = k := ⟨x.toInt.toNat, by omega⟩
  have hx : x = Int32.ofNat k := Int32.toInt_inj.mp (by rw [hk, Int32.toInt_ofNat_small (by omega)])
  rw [hx]
  exact t ⟨k, by omega⟩
end StrChars
namespace StrChars.Road
open Jvm Sem ClassFile Op Lib Jvm.Stand Jvm.Free Jvm.Free.XT
open Jvm.Lib.Cold (StaticIs)
abbrev ST : String := "java/lang/String"
/-- every table word that New1's law asks, flat -/
abbrev words : List Jvm.Cond := [.code New1.yN New1.yB 2 none, .initialized ST, .methodLink ST 27 New4.yN, .instanceMethod New4.yN,
  .code New4.yN New4.yB 6 none, .fieldLink ST 38 ST "COMPACT_STRINGS" "Z", .laysFinal ST ST "value" "[B", .fieldLink ST 9 ST "value" "[B", .laysFinal ST ST "coder" "B", .fieldLink ST 15 ST "coder" "B",
  .methodLink ST 1 Lib.objectInit, .instanceMethod Lib.objectInit, .code Lib.objectInit ⟨#[0xb1]⟩ 1 none, .methodLink ST 177 Cmp3.yN, .static Cmp3.yN, .methodLink ST 47 CodL.yN, .static CodL.yN,
  .code Cmp3.yN Cmp3.yB 6 (some (.array .byte)), .initialized U16, .arrayClass .byte, .methodLink U16 115 Cmp5.yN, .static Cmp5.yN, .code Cmp5.yN Cmp5.yB 7 (some .int), .code CodL.yN CodL.yB 2 (some .byte)]
theorem tab_of {a : Array Value} {s : State} (h : ∀ w ∈ words, w.before a s = true) : New1.tab.before a s = true := by
  have h5 : Cmp5.tab.before a s = true := unparts (wk h (.code Cmp5.yN Cmp5.yB 7 (some .int))) (wks h (.initialized Cmp5.yN.cls :: Cmp5.site))
  have hc : CodL.tab.before a s = true := unparts (wk h (.code CodL.yN CodL.yB 2 (some .byte))) (wks h (.initialized CodL.yN.cls :: CodL.site))
  have q5 : ∀ w ∈ Cmp5.tab :: words, w.before a s = true := fun w hw => (List.mem_cons.mp hw).elim (fun e => e ▸ h5) (h w)
  have h3 : Cmp3.tab.before a s = true := unparts (wk q5 (.code Cmp3.yN Cmp3.yB 6 (some (.array .byte)))) (wks q5 (.initialized Cmp3.yN.cls :: Cmp3.site))
  have q3 : ∀ w ∈ Cmp3.tab :: CodL.tab :: words, w.before a s = true := fun w hw => (List.mem_cons.mp hw).elim (fun e => e ▸ h3) fun hw => (List.mem_cons.mp hw).elim (fun e => e ▸ hc) (h w)
  have h4 : New4.tab.before a s = true := unparts (wk q3 (.code New4.yN New4.yB 6 none)) (wks q3 (.initialized New4.yN.cls :: New4.site))
  have q4 : ∀ w ∈ New4.tab :: words, w.before a s = true := fun w hw => (List.mem_cons.mp hw).elim (fun e => e ▸ h4) (h w)
  exact unparts (wk q4 (.code New1.yN New1.yB 2 none)) (wks q4 (.initialized New1.yN.cls :: New1.site))
/-- the words ride from the start Z to the walk's own state -/
theorem moved {Z s : State} {a0 args : Array Value} (hZ : Z.Warmed39 s.vm) (hw : ∀ d ∈ words, d.before a0 Z = true) : ∀ d ∈ words, d.before args s = true := fun d hd => by
  have q := hw d hd
  have t : ∀ d ∈ words, d = .arrayClass .byte ∨ (d.onTables && d.keepsFace) = true := by decide +kernel
  rcases t d hd with rfl | t
  · exact RoadKit.mvA hZ q
  · exact RoadKit.mv hZ q t
/-- WHAT COMES BACK, over the tables of the start Z: h the heap at the call, h' behind it -/
def Q (Z : State) (x : Addr) (A : Cell) (h : Heap) (v : Option Value) (h' : Heap) (L : List Loc) : Prop := v = none ∧ (∀ y ∈ L, y.base = x) ∧ RoadKit.Keep h h' [x] ∧ h'.size = h.size + 1 ∧ RoadKit.Exa Z h' x ST ∧ RoadKit.Fld Z h' x ST "value" "[B" (.ref h.size) ∧ RoadKit.Fld Z h' x ST "coder" "B" (.int 0) ∧
  (∃ V : Cell, RoadKit.Arr Z h' h.size V .byte ∧ V.vm = .none ∧ Z.vm.findClass "[B" = some V.cls ∧ V.slots.size = A.slots.size ∧ ∀ j, j < A.slots.size → V.slots[j]? = some (.int (lo8 (cv A j)))) ∧
  ∀ (O n d : String) (w : Value), RoadKit.Fld Z h x O n d w → RoadKit.slotOf Z O n d ≠ RoadKit.slotOf Z ST "value" "[B" → RoadKit.slotOf Z O n d ≠ RoadKit.slotOf Z ST "coder" "B" → RoadKit.Fld Z h' x O n d w
/-- **new String(chars) AT A CALL, IN THE ROAD'S FORM**: for specialBack behind newO: x the fresh String, b the char[] with the cell A -/
theorem back {p : Program} {l : Launch} {e : Env} {R : Room} {s : State} {args : Array Value} {below : List Frame} {len W : Nat} {Z : State} {a0 : Array Value} {h : Heap} (hZ : Z.Warmed39 s.vm) (hw : ∀ d ∈ words, d.before a0 Z = true) {kI : Nat} (wi : (Jvm.Cond.instantiable ST kI).before a0 Z = true)
    {x b : Addr} {A : Cell} {z : Int32} {v0 c0 : Value} (E : RoadKit.Exa Z h x ST) (V : RoadKit.Fld Z h x ST "value" "[B" v0) (C : RoadKit.Fld Z h x ST "coder" "B" c0) (K : RoadKit.Arr Z h b A .char) (hty : Typed .char A) (S : RoadKit.Sta Z h ST "COMPACT_STRINGS" "Z" (.int z)) (hz : ¬ z = 0)
    (l0 : 0 < A.slots.size) (l2 : A.slots.size ≤ 536870912) (hp : ∀ i, i < A.slots.size → ¬ 255 < cv A i) (hfr : 4 ≤ R.frames) (hlo : W + 65 ≤ R.locals) :
    Back l R p e below s args New1.yN len W (fun P a => a = #[.ref x, .ref b] ∧ P.U.heap = h ∧ P.cells + 1 ≤ R.cells ∧ P.slots + A.slots.size ≤ R.slots)
      (fun P _ v B => ∃ L, Q Z x A h v B.U.heap L ∧ B.locs = P.locs ++ L ∧ B.cells = P.cells + 1 ∧ B.slots = P.slots + A.slots.size) := by
  intro m meth c P g ig mk a X hg hsize hdg hW hn hp'
  obtain ⟨rfl, rfl, r1, r2⟩ := hp'
  have al : Z.vm.Alike P.U.vm := hZ.alike.trans X.warmed.alike
  obtain ⟨D, cfV, kV, iV, fV, hD, gV, stV, knV, obV, asV, slV⟩ := id V
  obtain ⟨D', cfC, kC, iC, fC, hD', gC, stC, -, -, asC, slC⟩ := id C
  cases hD.symm.trans hD'
  obtain ⟨D2, kD, e1, e2, e3, e4, e5⟩ := id E
  cases hD.symm.trans e1
  obtain ⟨c2, k2, i1, i2, i3, -⟩ := Cond.instantiable_spec wi
  cases e2.symm.trans i1
  cases e3.symm.trans i2
  obtain ⟨kU, u1, u2⟩ := al.2.2 _ _ e3
  have hB : Blank ST x D P.U := ⟨hD, ⟨knV, fun q hq => by rw [hq] at obV; cases obV⟩, by rw [al.findClass]; exact e2, kU, u1, by rw [u2]; exact i3, by rw [u2]; exact e5 i3⟩
  have F1 : Found ST "value" "[B" fV P.U := ⟨SBG.found_only al ⟨cfV, kV, iV, gV⟩, stV⟩
  have F2 : Found ST "coder" "B" fC P.U := ⟨SBG.found_only al ⟨cfC, kC, iC, gC⟩, stC⟩
  have hA : Ch b A P.U := ⟨⟨K.1, State.isArrayOf_alike al K.2.1, K.2.2, by omega⟩, hty⟩
  have hS : StaticIs P.U ST "COMPACT_STRINGS" "Z" (.int z) := by
    obtain ⟨cfS, iS, kS, fS, st, cS, t1, t2, t3, t4, t5, t6, t7⟩ := S
    exact StaticIs.there (s := { Z with heap := P.U.heap }) ⟨cfS, iS, kS, fS, st, cS, t1, t2, t3, t4, t5, (fun q => by rw [q] at t6; cases t6), t7⟩ al rfl
  obtain ⟨v, B, X', ⟨⟨hv, E', V', q1, q2, q3, q4, q5, q6, q7, q8, q9, q10, q11⟩, hl, hc, hs⟩, st⟩ := New1.pays x D fV fC b A z (tab_of (moved hZ hw)) hfr hlo m meth c P g ig mk _ X hg hsize hdg hW hn ⟨r1, r2, rfl, hB, F1, F2, hA, hS, hz, l0, l2, hp⟩
  have al' : Z.vm.Alike B.U.vm := hZ.alike.trans X'.warmed.alike
  have hsz : E'.slots.size = D.slots.size := by
    obtain ⟨-, -, -, kB, w1, w2, w3⟩ := q1
    obtain ⟨kB', y1, y2⟩ := al'.2.2 _ _ e3
    rw [q2.2.1] at w1
    cases w1.symm.trans y1
    rw [w3, e5 i3, y2]
  refine ⟨v, B, X', ⟨_, ⟨hv, ?_, ⟨by omega, fun y cy hy hn' => q10 y cy (by simpa using hn') hy, fun y cy hy => ?_⟩, q11, ⟨E', _, q1.1, by rw [q2.2.1]; exact e2, by rw [q2.2.1]; exact e3, by rw [q2.1]; exact obV, fun _ => by rw [hsz]; exact e5 i3⟩,
    ⟨E', cfV, kV, iV, fV, q1.1, gV, stV, by rw [q2.1]; exact knV, by rw [q2.1]; exact obV, by rw [q2.2.1]; exact asV, q3⟩, ⟨E', cfC, kC, iC, fC, q1.1, gC, stC, by rw [q2.1]; exact knV, by rw [q2.1]; exact obV, by rw [q2.2.1]; exact asC, q4⟩,
    ⟨V', ⟨q5.1, State.isArrayOf_alike al'.symm q5.2.1, q5.2.2.1⟩, q6, by rw [← al'.findClass]; exact q7, q8, fun j hj => by have := q9 j hj; rwa [Nat.zero_add] at this⟩, fun O n d w F n1 n2 => ?_⟩, hl, hc, hs⟩, st⟩
  · intro y hy
    simp only [List.mem_cons, List.not_mem_nil, or_false] at hy
    rcases hy with rfl | rfl <;> rfl
  · by_cases q : y = x
    · subst q
      cases hD.symm.trans hy
      exact ⟨E', q1.1, q2.2.1, q2.1, hsz⟩
    · exact ⟨cy, q10 y cy q hy, rfl, rfl, rfl⟩
  · obtain ⟨D3, cf, k, i, f, g1, g2, g3, g4, g5, g6, g7⟩ := F
    cases hD.symm.trans g1
    simp only [RoadKit.slotOf, g2, gV, gC, Option.map_some, Option.getD_some] at n1 n2
    exact ⟨E', cf, k, i, f, q1.1, g2, g3, by rw [q2.1]; exact g4, by rw [q2.1]; exact g5, by rw [q2.2.1]; exact g6, by rw [q2.2.2 f.slot (by simp [n1, n2])]; exact g7⟩
end StrChars.Road
namespace StrChars.Road
open Jvm Sem ClassFile Op Lib Jvm.Stand Jvm.Free Jvm.Free.XT
/-- WHAT COMES BACK, the byte[] as a list of values -/
def QA (Z : State) (x : Addr) (zn : Int32) (cs : List Int32) (h : Heap) (v : Option Value) (h' : Heap) (L : List Loc) : Prop := v = none ∧ (∀ y ∈ L, y.base = x) ∧ RoadKit.Keep h h' [x] ∧ h'.size = h.size + 1 ∧ RoadKit.Exa Z h' x ST ∧ RoadKit.Fld Z h' x ST "value" "[B" (.ref h.size) ∧ RoadKit.Fld Z h' x ST "coder" "B" (.int 0) ∧
  (∃ kb, Z.vm.findClass "[B" = some kb ∧ RoadKit.Arv Z h' h.size kb .byte zn (cs.map fun c => .int (lo8 c)) (.int 0)) ∧
  ∀ (O n d : String) (w : Value), RoadKit.Fld Z h x O n d w → RoadKit.slotOf Z O n d ≠ RoadKit.slotOf Z ST "value" "[B" → RoadKit.slotOf Z O n d ≠ RoadKit.slotOf Z ST "coder" "B" → RoadKit.Fld Z h' x O n d w
/-- **new String(chars) AT A CALL, THE ARRAYS AS LISTS**: the char[] at b holds cs, not empty, no char above 255 -/
theorem backArv {p : Program} {l : Launch} {e : Env} {R : Room} {s : State} {args : Array Value} {below : List Frame} {len W : Nat} {Z : State} {a0 : Array Value} {h : Heap} (hZ : Z.Warmed39 s.vm) (hw : ∀ d ∈ words, d.before a0 Z = true) {kI : Nat} (wi : (Jvm.Cond.instantiable ST kI).before a0 Z = true)
    {x b : Addr} {k : ClassId} {zn z : Int32} {cs : List Int32} {dv v0 c0 : Value} (E : RoadKit.Exa Z h x ST) (V : RoadKit.Fld Z h x ST "value" "[B" v0) (C : RoadKit.Fld Z h x ST "coder" "B" c0) (K : RoadKit.Arv Z h b k .char zn (cs.map Value.int) dv) (S : RoadKit.Sta Z h ST "COMPACT_STRINGS" "Z" (.int z)) (hz : ¬ z = 0)
    (hlen : zn.toNatClampNeg = cs.length) (h0 : 0 < cs.length) (hbig : cs.length ≤ 536870912) (hall : ∀ c ∈ cs, ¬ 255 < c) (hfr : 4 ≤ R.frames) (hlo : W + 65 ≤ R.locals) :
    Back l R p e below s args New1.yN len W (fun P a => a = #[.ref x, .ref b] ∧ P.U.heap = h ∧ P.cells + 1 ≤ R.cells ∧ P.slots + cs.length ≤ R.slots)
      (fun P _ v B => ∃ L, QA Z x zn cs h v B.U.heap L ∧ B.locs = P.locs ++ L ∧ B.cells = P.cells + 1 ∧ B.slots = P.slots + cs.length) := by
  obtain ⟨A, K1, K2, K3, K4, K5, K6⟩ := K
  have e : A.slots.size = cs.length := K3.trans hlen
  have hat : ∀ (i : Nat) (hi : i < cs.length), A.slots[i]? = some (.int cs[i]) := fun i hi => by rw [K5 i (by omega)]; simp [List.getD_eq_getElem?_getD, hi]
  have hcv : ∀ (i : Nat) (hi : i < cs.length), cv A i = cs[i] := fun i hi => by unfold cv; rw [hat i hi]
  have hty : Typed .char A := fun i v hv => by
    have hi : i < A.slots.size := (Array.getElem?_eq_some_iff.mp hv).1
    have q := K5 i hi
    rw [hv] at q
    rw [Option.some.inj q]
    exact K6 i hi
  refine Back.mono (back hZ hw wi E V C K1 hty S hz (by omega) (by omega) (fun i hi => by rw [hcv i (by omega)]; exact hall _ (List.getElem_mem _)) hfr hlo) (fun P a hp => ⟨hp.1, hp.2.1, hp.2.2.1, by rw [e]; exact hp.2.2.2⟩) (fun P a v B hp hq => ?_)
  obtain ⟨L, ⟨q1, q2, q3, q4, q5, q6, q7, ⟨V', v1, v2, v3, v4, v5⟩, q9⟩, hl, hc, hs⟩ := hq
  refine ⟨L, ⟨q1, q2, q3, q4, q5, q6, q7, ⟨V'.cls, v3, V', v1, rfl, by rw [v4, e, hlen], K4, fun i hi => ?_, fun i hi => ?_⟩, q9⟩, hl, hc, by rw [hs, e]⟩
  · have hi' : i < cs.length := by omega
    rw [v5 i (by omega), hcv i hi']; simp [List.getD_eq_getElem?_getD, hi']
  · have hi' : i < cs.length := by omega
    simp only [List.getD_eq_getElem?_getD, List.getElem?_map, List.getElem?_eq_getElem hi', Option.map_some, Option.getD_some]
    exact fits_lo8 _
end StrChars.Road
namespace StrChars.Road
open Jvm Sem ClassFile Op Lib Jvm.Stand Jvm.Free Jvm.Free.XT
/-- WHAT COMES BACK, in the writer's own shape -/
def QV (Z : State) (x : Addr) (N : Int32) (bs : List Int32) (h : Heap) (n0 : Nat) (v : Option Value) (h' : Heap) (L : List Loc) : Prop := v = none ∧ RoadKit.Fr n0 L ∧ RoadKit.Keep h h' [x] ∧ RoadKit.Exa Z h' x ST ∧ RoadKit.Fld Z h' x ST "coder" "B" (.int 0) ∧
  ∃ (t : Addr) (kb : ClassId), n0 ≤ t ∧ h.size ≤ t ∧ ¬ t = x ∧ RoadKit.Fld Z h' x ST "value" "[B" (.ref t) ∧ RoadKit.Arv Z h' t kb .byte N (bs.map Value.int) (.int 0)
/-- **new String(chars) AT A CALL, FOR THE WRITER**: a char[] of n known ints, each 0 to 255 -/
theorem backV {p : Program} {l : Launch} {e : Env} {R : Room} {s : State} {args : Array Value} {below : List Frame} {len W : Nat} {Z : State} {a0 : Array Value} {h : Heap} (hZ : Z.Warmed39 s.vm) (hw : ∀ d ∈ words, d.before a0 Z = true) {kI : Nat} (wi : (Jvm.Cond.instantiable ST kI).before a0 Z = true)
    {x b : Addr} {kC : ClassId} {cs bs : List Int32} {d v0 c0 : Value} {z N : Int32} {n n0 : Nat} (hx0 : n0 ≤ x) (hh0 : n0 ≤ h.size) (E : RoadKit.Exa Z h x ST) (V : RoadKit.Fld Z h x ST "value" "[B" v0) (C : RoadKit.Fld Z h x ST "coder" "B" c0) (K : RoadKit.Arv Z h b kC .char N (cs.map Value.int) d) (S : RoadKit.Sta Z h ST "COMPACT_STRINGS" "Z" (.int z)) (hz : ¬ z = 0)
    (hn : cs.length = n) (hN : N = Int32.ofNat n) (l0 : 0 < n) (l2 : n ≤ 4000) (hp : ∀ c ∈ cs, ¬ c < 0 ∧ ¬ (255 : Int32) < c) (hb : bs = cs.map (fun c => c.toInt8.toInt32)) (hfr : 4 ≤ R.frames) (hlo : W + 65 ≤ R.locals) :
    Back l R p e below s args (⟨"java/lang/String", "<init>", "([C)V"⟩ : MethodName) len W (fun P a => a = #[.ref x, .ref b] ∧ P.U.heap = h ∧ P.cells + 1 ≤ R.cells ∧ P.slots + n ≤ R.slots)
      (fun P _ v B => ∃ L, QV Z x N bs h n0 v B.U.heap L ∧ B.locs = P.locs ++ L ∧ B.cells = P.cells + 1 ∧ B.slots = P.slots + n) := by
  subst hn hN hb
  refine Back.mono (backArv hZ hw wi E V C K S hz (n32 (by omega)) l0 (by omega) (fun c hc => (hp c hc).2) hfr hlo) (fun P a hp => hp) (fun P a v B hp hq => ?_)
  obtain ⟨L, ⟨q1, q2, q3, q4, q5, q6, q7, ⟨kb, v1, v2⟩, q9⟩, hl, hc, hs⟩ := hq
  exact ⟨L, ⟨q1, fun y hy => by rw [q2 y hy]; exact hx0, q3, q5, q7, h.size, kb, hh0, Nat.le_refl _, Nat.ne_of_gt E.lt, q6, by rw [List.map_map]; exact v2⟩, hl, hc, hs⟩
end StrChars.Road
namespace StrChars
open Jvm Sem ClassFile Op Lib Jvm.Stand Jvm.Free.XT Jvm.Free.ALB Jvm.Free.JM Jvm.Free
open Jvm.Lib.Cold (StaticIs)
def hi8 (x : Int32) : Int32 := lo8 (x >>> ((8 : Int32) &&& 31))
/-- what StringUTF16.getChar makes of two bytes -/
def pairCh (u v : Int32) : Int32 := (((u &&& 255) <<< ((0 : Int32) &&& 31)) ||| ((v &&& 255) <<< ((8 : Int32) &&& 31))).toUInt32.toUInt16.toUInt32.toInt32
theorem shr0 (c : Int32) : c >>> ((0 : Int32) &&& 31) = c := by
  have e : ((0 : Int32) &&& 31) = 0 := by decide
  rw [e]
  apply Int32.toBitVec_inj.mp
  rw [Int32.toBitVec_shiftRight]
  have e1 : ((0 : Int32).toBitVec.smod 32) = 0#32 := by decide
  rw [e1, BitVec.sshiftRight_eq']
  exact BitVec.sshiftRight_zero
theorem lo8_and (x : Int32) : (lo8 x &&& 255).toBitVec.toNat = x.toBitVec.toNat % 256 := by
  have h : (lo8 x).toBitVec = (x.toBitVec.signExtend 8).signExtend 32 := by rw [lo8, Int8.toBitVec_toInt32, Int32.toBitVec_toInt8]
  rw [Int32.toBitVec_and, BitVec.toNat_and, h]
  have e : ((x.toBitVec.signExtend 8).signExtend 32).toNat % 256 = x.toBitVec.toNat % 256 := by
    rw [BitVec.toNat_signExtend]
    have hlt := x.toBitVec.isLt
    simp only [BitVec.toNat_setWidth, BitVec.toNat_signExtend]
    split <;> split <;> omega
  rw [← e]
  exact Nat.and_two_pow_sub_one_eq_mod _ 8
theorem pair_says {c : Int32} (h0 : ¬ c < 0) (h1 : ¬ 65535 < c) : pairCh (lo8 c) (hi8 c) = c := by
  rw [Int32.lt_iff_toInt_lt] at h0 h1
  have e0 : (0 : Int32).toInt = 0 := rfl
  have e1 : (65535 : Int32).toInt = 65535 := rfl
  have hc : c.toInt = c.toBitVec.toNat := by
    have := c.toBitVec.isLt
    have e : c.toInt = c.toBitVec.toInt := rfl
    rw [e] at h0 h1
    rw [e]
    rw [BitVec.toInt_eq_toNat_cond] at h0 h1 ⊢
    split at h0 <;> split <;> omega
  have hn : c.toBitVec.toNat < 65536 := by omega
  have a1 := lo8_and c
  have a2 : (hi8 c &&& 255).toBitVec.toNat = c.toBitVec.toNat / 256 := by
    rw [hi8, lo8_and]
    have e : ((8 : Int32) &&& 31) = 8 := by decide
    rw [e, Int32.toBitVec_shiftRight]
    have e2 : ((8 : Int32).toBitVec.smod 32) = 8#32 := by decide
    rw [e2, BitVec.sshiftRight_eq', BitVec.toNat_sshiftRight_of_msb_false (by rw [BitVec.msb_eq_false_iff_two_mul_lt]; omega)]
    show c.toBitVec.toNat >>> 8 % 256 = _
    rw [Nat.shiftRight_eq_div_pow]
    omega
  unfold pairCh
  apply Int32.toBitVec_inj.mp
  apply BitVec.eq_of_toNat_eq
  have f0 : ((0 : Int32) &&& 31) = 0 := by decide
  have f8 : ((8 : Int32) &&& 31) = 8 := by decide
  rw [f0, f8]
  have g : (((lo8 c &&& 255) <<< (0 : Int32)) ||| ((hi8 c &&& 255) <<< (8 : Int32))).toBitVec.toNat = c.toBitVec.toNat := by
    rw [Int32.toBitVec_or, Int32.toBitVec_shiftLeft, Int32.toBitVec_shiftLeft]
    have s0 : ((0 : Int32).toBitVec.smod 32) = 0#32 := by decide
    have s8 : ((8 : Int32).toBitVec.smod 32) = 8#32 := by decide
    rw [s0, s8, BitVec.toNat_or]
    simp only [BitVec.shiftLeft_eq', BitVec.toNat_shiftLeft, a1, a2]
    show (c.toBitVec.toNat % 256) <<< 0 % 2 ^ 32 ||| (c.toBitVec.toNat / 256) <<< 8 % 2 ^ 32 = _
    rw [Nat.shiftLeft_zero, Nat.mod_eq_of_lt (show c.toBitVec.toNat % 256 < 2 ^ 32 by omega), Nat.mod_eq_of_lt (show (c.toBitVec.toNat / 256) <<< 8 < 2 ^ 32 by rw [Nat.shiftLeft_eq]; omega), Nat.or_comm, ← Nat.shiftLeft_add_eq_or_of_lt (by omega), Nat.shiftLeft_eq]
    omega
  show BitVec.toNat (((((lo8 c &&& 255) <<< (0 : Int32)) ||| ((hi8 c &&& 255) <<< (8 : Int32))).toBitVec.setWidth 16).setWidth 32) = _
  rw [BitVec.toNat_setWidth, BitVec.toNat_setWidth, g]
  omega
end StrChars
namespace StrChars
open Jvm Sem ClassFile Op Lib Jvm.Stand Jvm.Free.XT Jvm.Free.ALB Jvm.Free.JM Jvm.Free
open Jvm.Lib.Cold (StaticIs)
theorem shr1 {n : Nat} (h : 2 * n < 2 ^ 31) : Int32.ofNat (2 * n) >>> ((1 : Int32) &&& 31) = Int32.ofNat n := by
  have e : ((1 : Int32) &&& 31) = 1 := by decide
  rw [e]
  apply Int32.toBitVec_inj.mp
  rw [Int32.toBitVec_shiftRight]
  have e1 : ((1 : Int32).toBitVec.smod 32) = 1#32 := by decide
  have hm : (BitVec.ofNat 32 (2 * n)).toNat = 2 * n := by rw [BitVec.toNat_ofNat, Nat.mod_eq_of_lt (by omega)]
  rw [e1, BitVec.sshiftRight_eq']
  apply BitVec.eq_of_toNat_eq
  show ((BitVec.ofNat 32 (2 * n)).sshiftRight 1).toNat = (BitVec.ofNat 32 n).toNat
  rw [BitVec.toNat_sshiftRight_of_msb_false (by rw [BitVec.msb_eq_false_iff_two_mul_lt, hm]; omega), hm, BitVec.toNat_ofNat, Nat.shiftRight_eq_div_pow]
  omega
/-- charAt's cast of a byte read back -/
def chr8 (u : Int32) : Int32 := (u &&& 255).toUInt32.toUInt16.toUInt32.toInt32
theorem chr8_lo8 {c : Int32} (h0 : ¬ c < 0) (h1 : ¬ 255 < c) : chr8 (lo8 c) = c := by
  have t : ∀ k : Fin 256, (Int32.ofNat k.val).toUInt32.toUInt16.toUInt32.toInt32 = Int32.ofNat k.val := by decide +kernel
  unfold chr8
  rw [lo8_mask h0 h1]
  rw [Int32.lt_iff_toInt_lt] at h0 h1
  have e0 : (0 : Int32).toInt = 0 := rfl
  have e1 : (255 : Int32).toInt = 255 := rfl
  obtain ⟨k, hk⟩ : ∃ k : Nat, c.toInt = k := ⟨c.toInt.toNat, by omega⟩
  have hx : c = Int32.ofNat k := Int32.toInt_inj.mp (by rw [hk, Int32.toInt_ofNat_small (by omega)])
  rw [hx]
  exact t ⟨k, by omega⟩
theorem narrow_ch {c : Int32} (h0 : ¬ c < 0) (h1 : ¬ 65535 < c) : narrow .char (.int c) = .int c := by
  have q : narrow .char (.int (pairCh (lo8 c) (hi8 c))) = .int (pairCh (lo8 c) (hi8 c)) := narrow_c _
  rwa [pair_says h0 h1] at q
/-- the array's cell V codes the n chars f 0 .. f (n - 1) by the coder cd, as the JDK does: coder 1 just where some char is above 255 -/
def Cod (cd : Int32) (n : Nat) (f : Nat → Int32) (V : Cell) : Prop := (cd = 0 ∧ V.slots.size = n ∧ ∀ j, j < n → V.slots[j]? = some (.int (lo8 (f j))) ∧ ¬ 255 < f j) ∨ (cd = 1 ∧ V.slots.size = 2 * n ∧ (∀ j, j < n → V.slots[2 * j]? = some (.int (lo8 (f j))) ∧ V.slots[2 * j + 1]? = some (.int (hi8 (f j)))) ∧ ∃ j, j < n ∧ 255 < f j)
theorem Cod.cd {cd : Int32} {n : Nat} {f : Nat → Int32} {V : Cell} (h : Cod cd n f V) : cd = 0 ∨ cd = 1 := h.imp (fun q => q.1) fun q => q.1
theorem Cod.len {cd : Int32} {n : Nat} {f : Nat → Int32} {V : Cell} (h : Cod cd n f V) (hs : V.slots.size < 2 ^ 31) : Int32.ofNat V.slots.size >>> (cd &&& 31) = Int32.ofNat n := by
  rcases h with ⟨rfl, h, -⟩ | ⟨rfl, h, -⟩
  · rw [shr0, h]
  · rw [h, shr1 (by omega)]
/-- **x is a String of the n chars f 0 .. f (n - 1)**, Latin-1 or UTF-16; its array at t has the cell V -/
def Txt (x t : Addr) (V : Cell) (cd : Int32) (n : Nat) (f : Nat → Int32) (U : State) : Prop := Exact "java/lang/String" x U ∧ Has x "java/lang/String" "value" "[B" (.ref t) U ∧ Has x "java/lang/String" "coder" "B" (.int cd) U ∧ XT.Arr .byte t V U ∧ Cod cd n f V ∧ ∀ j, j < n → ¬ f j < 0 ∧ ¬ 65535 < f j
theorem Txt.mv {x t : Addr} {V : Cell} {cd : Int32} {n : Nat} {f : Nat → Int32} {U U' : State} (h : Txt x t V cd n f U) (hal : U.vm.Alike U'.vm) (hh : U'.heap = U.heap) : Txt x t V cd n f U' := ⟨h.1.mv hal hh, h.2.1.mv hal hh, h.2.2.1.mv hal hh, h.2.2.2.1.mv hal hh, h.2.2.2.2⟩
namespace Cdr
def yN : MethodName := ⟨"java/lang/String", "coder", "()B"⟩
abbrev yB : ByteArray := jdk_42_method_152_code
theorem d0 : decode yB 0 = .ok (.getstatic 38, 3) := by decide +kernel
theorem d3 : decode yB 3 = .ok (.ifCond (.eq) 10, 3) := by decide +kernel
theorem d6 : decode yB 6 = .ok (.aload_n 0, 1) := by decide +kernel
theorem d7 : decode yB 7 = .ok (.getfield 15, 3) := by decide +kernel
theorem d10 : decode yB 10 = .ok (.goto 4, 3) := by decide +kernel
theorem d14 : decode yB 14 = .ok (.ireturn, 1) := by decide +kernel
def site : List Cond := [.fieldLink "java/lang/String" 38 "java/lang/String" "COMPACT_STRINGS" "Z", .fieldLink "java/lang/String" 15 "java/lang/String" "coder" "B"]
def tab : Cond := tabOf yN yB 1 (some .byte) site
def P (x : Addr) (cd z : Int32) (args : Array Value) (s : State) : Prop := args = #[.ref x] ∧ Has x "java/lang/String" "coder" "B" (.int cd) s ∧ (cd = 0 ∨ cd = 1) ∧ StaticIs s "java/lang/String" "COMPACT_STRINGS" "Z" (.int z) ∧ ¬ z = 0
def E (cd : Int32) (r : Option Value) (s u : State) : Prop := XT.PureE (some (.int cd)) r s u
theorem law (l : Launch) (x : Addr) (cd z : Int32) : Law l yN 1 0 0 0 yB 1 (some .byte) site (P x cd z) (E cd) [] 0 0 := by
  refine Law.of_walk (plainFor_of_name (by decide +kernel)) (by decide +kernel) (by decide +kernel) (by decide) (fun _ _ h => by rw [h.1]; rfl) (fun _ U U' hal hh h => ⟨h.1, h.2.1.mv hal hh, h.2.2.1, h.2.2.2.1.there hal hh, h.2.2.2.2⟩) (fun r U U' V V' h1 hal h2 h => XT.PureE.mv r U U' V V' h1 hal h2 h) ?_
  intro p e s m args below meth c s₁ X0 hexec hbytes hml hret hlk hnm hown hh0 W hP
  obtain ⟨rfl, hx, hc, s1, hz⟩ := hP
  have c1 : Steps p.tables e below (s₁.setTop (entryFrame m #[.ref x] 1)) (s₁.setTop (mkF m 0 #[.val (.ref x)] [])) := entry rfl
  obtain ⟨T2, X2, q2, st2⟩ := X0.sget hexec hown (wk W (.fieldLink "java/lang/String" 38 "java/lang/String" "COMPACT_STRINGS" "Z")) s1 (fun _ _ h => by rw [hh0]; exact h) (g := (mkF m 0 #[.val (.ref x)] [])) rfl (hb hbytes d0)
  have hh2 := q2.trans hh0
  have c3 : Steps p.tables e below (s₁.setTop (entryFrame m #[.ref x] 1)) (T2.setTop (mkF m 7 #[.val (.ref x)] [.ref x])) := (c1.trans (st2 _ (Steps.refl _))).trans (by
    refine XS.ifNo X2.here hexec rfl (hb hbytes d3) rfl (i0_eq_f hz) ?_
    refine XS.aloadN X2.here hexec rfl (hb hbytes d6) rfl rfl ?_
    exact Steps.refl _)
  obtain ⟨T4, X4, q4, st4⟩ := X2.hget hexec hown (wk W (.fieldLink "java/lang/String" 15 "java/lang/String" "coder" "B")) (hx.mv X2.warmed.alike hh2) (g := (mkF m 7 #[.val (.ref x)] [.ref x])) rfl (rest := []) rfl (hb hbytes d7)
  have c5 : Steps p.tables e below (s₁.setTop (entryFrame m #[.ref x] 1)) (T4.setTop (mkF m 14 #[.val (.ref x)] [.int cd])) := (c3.trans (st4 _ (Steps.refl _))).trans (by
    refine XS.goto X4.here hexec rfl (pc0 := 10) rfl (hb hbytes d10) (by decide) rfl ?_
    exact Steps.refl _)
  exact ⟨T4, some (.int cd), _, _, _, X4, rfl, rfl, rfl, (fun h => by cases h), ⟨rfl, q4.trans hh2⟩, fun fs hl => c5.trans (X4.ireturnOut hexec hret (by rcases hc with rfl | rfl <;> rfl) (Or.inr (Or.inr (Or.inl rfl))) (hb hbytes d14) hl)⟩
end Cdr
namespace Len
def yN : MethodName := ⟨"java/lang/String", "length", "()I"⟩
abbrev yB : ByteArray := jdk_42_method_54_code
theorem d0 : decode yB 0 = .ok (.aload_n 0, 1) := by decide +kernel
theorem d1 : decode yB 1 = .ok (.getfield 9, 3) := by decide +kernel
theorem d4 : decode yB 4 = .ok (.arraylength, 1) := by decide +kernel
theorem d5 : decode yB 5 = .ok (.aload_n 0, 1) := by decide +kernel
theorem d6 : decode yB 6 = .ok (.invokevirtual 335, 3) := by decide +kernel
theorem d9 : decode yB 9 = .ok (.ishr, 1) := by decide +kernel
theorem d10 : decode yB 10 = .ok (.ireturn, 1) := by decide +kernel
def site : List Cond := [.fieldLink "java/lang/String" 9 "java/lang/String" "value" "[B", Cdr.tab] ++ virtW "java/lang/String" 335 "java/lang/String" Cdr.yN Cdr.yN
def tab : Cond := tabOf yN yB 1 (some .int) site
def P (x t : Addr) (V : Cell) (cd : Int32) (n : Nat) (f : Nat → Int32) (z : Int32) (args : Array Value) (s : State) : Prop := args = #[.ref x] ∧ Txt x t V cd n f s ∧ StaticIs s "java/lang/String" "COMPACT_STRINGS" "Z" (.int z) ∧ ¬ z = 0
def E (n : Nat) (r : Option Value) (s u : State) : Prop := XT.PureE (some (.int (Int32.ofNat n))) r s u
/-- length() of a String of n chars, in either coding -/
theorem law (l : Launch) (x t : Addr) (V : Cell) (cd : Int32) (n : Nat) (f : Nat → Int32) (z : Int32) : Law l yN 1 0 1 13 yB 1 (some .int) site (P x t V cd n f z) (E n) [] 0 0 := by
  refine Law.of_walk (plainFor_of_name (by decide +kernel)) (by decide +kernel) (by decide +kernel) (by decide) (fun _ _ h => by rw [h.1]; rfl) (fun _ U U' hal hh h => ⟨h.1, h.2.1.mv hal hh, h.2.2.1.there hal hh, h.2.2.2⟩) (fun r U U' V V' h1 hal h2 h => XT.PureE.mv r U U' V V' h1 hal h2 h) ?_
  intro p e s m args below meth c s₁ X0 hexec hbytes hml hret hlk hnm hown hh0 W hP
  obtain ⟨rfl, hx, s1, hz⟩ := hP
  have v31 := hx.2.2.2.1.2.2.2
  have c1 : Steps p.tables e below (s₁.setTop (entryFrame m #[.ref x] 1)) (s₁.setTop (mkF m 1 #[.val (.ref x)] [.ref x])) := Steps.trans (entry rfl) (by
    show Steps p.tables e below (s₁.setTop (mkF m 0 #[.val (.ref x)] [])) _
    refine XS.aloadN X0.here hexec rfl (hb hbytes d0) rfl rfl ?_
    exact Steps.refl _)
  obtain ⟨T2, X2, q2, st2⟩ := X0.hget hexec hown (wk W (.fieldLink "java/lang/String" 9 "java/lang/String" "value" "[B")) (hx.mv X0.warmed.alike hh0).2.1 (g := (mkF m 1 #[.val (.ref x)] [.ref x])) rfl (rest := []) rfl (hb hbytes d1)
  have hh2 := q2.trans hh0
  have hx2 := hx.mv X2.warmed.alike hh2
  have c3 : Steps p.tables e below (s₁.setTop (entryFrame m #[.ref x] 1)) (T2.setTop (mkF m 6 #[.val (.ref x)] [.ref x, .int (Int32.ofNat V.slots.size)])) := (c1.trans (st2 _ (Steps.refl _))).trans (by
    refine X2.alen hexec hx2.2.2.2.1 rfl rfl (hb hbytes d4) ?_
    refine XS.aloadN X2.here hexec rfl (hb hbytes d5) rfl rfl ?_
    exact Steps.refl _)
  obtain ⟨v4, T4, X4, E4, g4⟩ := X2.callV hexec (Cdr.law l x cd z) hown (wks W (virtW "java/lang/String" 335 "java/lang/String" Cdr.yN Cdr.yN)) rfl (by decide) (wk W Cdr.tab) (W := 1) (Nat.le_of_ble_eq_true rfl) (Nat.le_of_ble_eq_true rfl) (Nat.le_refl _) (Nat.le_refl _) (hx2.1.fc X2.warmed.alike) hx2.1.is (g := (mkF m 6 #[.val (.ref x)] [.ref x, .int (Int32.ofNat V.slots.size)])) rfl (by rw [hml]; rfl) c3 (argsL := []) (rest := [.int (Int32.ofNat V.slots.size)]) rfl rfl (by show 2 * 0 + (1 + 0) ≤ _; decide) (hb hbytes d6) (⟨rfl, hx2.2.2.1, hx.2.2.2.2.1.cd, s1.there X2.warmed.alike hh2, hz⟩)
  obtain ⟨rfl, q4⟩ := E4
  have c5 : Steps p.tables e below (s₁.setTop (entryFrame m #[.ref x] 1)) (T4.setTop (mkF m 10 #[.val (.ref x)] [.int (Int32.ofNat V.slots.size >>> (cd &&& 31))])) := Steps.trans g4 (by
    refine ishr X4.here hexec rfl (hb hbytes d9) rfl ?_
    exact Steps.refl _)
  rw [hx.2.2.2.2.1.len v31] at c5
  exact ⟨T4, some (.int (Int32.ofNat n)), _, _, _, X4, rfl, rfl, rfl, (fun h => by cases h), ⟨rfl, q4.trans hh2⟩, fun fs hl => c5.trans (X4.ireturnOut hexec hret rfl (Or.inl rfl) (hb hbytes d10) hl)⟩
theorem pays {l : Launch} {R : Room} {p : Program} {e : Env} {below : List Frame} {s : State} {sargs : Array Value} {len W : Nat} (x t : Addr) (V : Cell) (cd : Int32) (n : Nat) (f : Nat → Int32) (z : Int32) (htab : tab.before sargs s = true) (hfr : 2 ≤ R.frames) (hlo : W + 25 ≤ R.locals) :
    Back l R p e below s sargs yN len W (fun A₁ a₁ => A₁.cells + 0 ≤ R.cells ∧ A₁.slots + 0 ≤ R.slots ∧ P x t V cd n f z a₁ A₁.U) (fun A₁ _ v₁ B₁ => E n v₁ A₁.U B₁.U ∧ B₁.locs = A₁.locs ++ [] ∧ B₁.cells = A₁.cells + 0 ∧ B₁.slots = A₁.slots + 0) :=
  (law l x t V cd n f z).pays htab hfr (by omega)
end Len
namespace IsL
def yN : MethodName := ⟨"java/lang/String", "isLatin1", "()Z"⟩
abbrev yB : ByteArray := jdk_42_method_154_code
theorem d0 : decode yB 0 = .ok (.getstatic 38, 3) := by decide +kernel
theorem d3 : decode yB 3 = .ok (.ifCond (.eq) 14, 3) := by decide +kernel
theorem d6 : decode yB 6 = .ok (.aload_n 0, 1) := by decide +kernel
theorem d7 : decode yB 7 = .ok (.getfield 15, 3) := by decide +kernel
theorem d10 : decode yB 10 = .ok (.ifCond (.ne) 7, 3) := by decide +kernel
theorem d13 : decode yB 13 = .ok (.iconst 1, 1) := by decide +kernel
theorem d14 : decode yB 14 = .ok (.goto 4, 3) := by decide +kernel
theorem d17 : decode yB 17 = .ok (.iconst 0, 1) := by decide +kernel
theorem d18 : decode yB 18 = .ok (.ireturn, 1) := by decide +kernel
def site : List Cond := [.fieldLink "java/lang/String" 38 "java/lang/String" "COMPACT_STRINGS" "Z", .fieldLink "java/lang/String" 15 "java/lang/String" "coder" "B"]
def tab : Cond := tabOf yN yB 1 (some .boolean) site
def P (x : Addr) (cd z : Int32) (args : Array Value) (s : State) : Prop := args = #[.ref x] ∧ Has x "java/lang/String" "coder" "B" (.int cd) s ∧ (cd = 0 ∨ cd = 1) ∧ StaticIs s "java/lang/String" "COMPACT_STRINGS" "Z" (.int z) ∧ ¬ z = 0
def E (cd : Int32) (r : Option Value) (s u : State) : Prop := XT.PureE (some (.int (1 - cd))) r s u
theorem law (l : Launch) (x : Addr) (cd z : Int32) : Law l yN 1 0 0 0 yB 1 (some .boolean) site (P x cd z) (E cd) [] 0 0 := by
  refine Law.of_walk (plainFor_of_name (by decide +kernel)) (by decide +kernel) (by decide +kernel) (by decide) (fun _ _ h => by rw [h.1]; rfl) (fun _ U U' hal hh h => ⟨h.1, h.2.1.mv hal hh, h.2.2.1, h.2.2.2.1.there hal hh, h.2.2.2.2⟩) (fun r U U' V V' h1 hal h2 h => XT.PureE.mv r U U' V V' h1 hal h2 h) ?_
  intro p e s m args below meth c s₁ X0 hexec hbytes hml hret hlk hnm hown hh0 W hP
  obtain ⟨rfl, hx, hc, s1, hz⟩ := hP
  have c1 : Steps p.tables e below (s₁.setTop (entryFrame m #[.ref x] 1)) (s₁.setTop (mkF m 0 #[.val (.ref x)] [])) := entry rfl
  obtain ⟨T2, X2, q2, st2⟩ := X0.sget hexec hown (wk W (.fieldLink "java/lang/String" 38 "java/lang/String" "COMPACT_STRINGS" "Z")) s1 (fun _ _ h => by rw [hh0]; exact h) (g := (mkF m 0 #[.val (.ref x)] [])) rfl (hb hbytes d0)
  have hh2 := q2.trans hh0
  have c3 : Steps p.tables e below (s₁.setTop (entryFrame m #[.ref x] 1)) (T2.setTop (mkF m 7 #[.val (.ref x)] [.ref x])) := (c1.trans (st2 _ (Steps.refl _))).trans (by
    refine XS.ifNo X2.here hexec rfl (hb hbytes d3) rfl (i0_eq_f hz) ?_
    refine XS.aloadN X2.here hexec rfl (hb hbytes d6) rfl rfl ?_
    exact Steps.refl _)
  obtain ⟨T4, X4, q4, st4⟩ := X2.hget hexec hown (wk W (.fieldLink "java/lang/String" 15 "java/lang/String" "coder" "B")) (hx.mv X2.warmed.alike hh2) (g := (mkF m 7 #[.val (.ref x)] [.ref x])) rfl (rest := []) rfl (hb hbytes d7)
  have c5 : Steps p.tables e below (s₁.setTop (entryFrame m #[.ref x] 1)) (T4.setTop (mkF m 10 #[.val (.ref x)] [.int cd])) := c3.trans (st4 _ (Steps.refl _))
  have c6 : Steps p.tables e below (s₁.setTop (entryFrame m #[.ref x] 1)) (T4.setTop (mkF m 18 #[.val (.ref x)] [.int (1 - cd)])) := by
    rcases hc with rfl | rfl
    · exact c5.trans (by
        refine XS.ifNo X4.here hexec rfl (hb hbytes d10) rfl (i0_ne_f rfl) ?_
        refine iconstV X4.here hexec rfl 1 (hb hbytes d13) (by decide) ?_
        refine XS.goto X4.here hexec rfl (pc0 := 14) rfl (hb hbytes d14) (by decide) rfl ?_
        exact Steps.refl _)
    · exact c5.trans (by
        refine XS.ifYes X4.here hexec rfl (pc0 := 10) rfl (hb hbytes d10) rfl (i0_ne_t (by decide)) (by decide) rfl ?_
        refine iconstV X4.here hexec rfl 0 (hb hbytes d17) (by decide) ?_
        exact Steps.refl _)
  exact ⟨T4, some (.int (1 - cd)), _, _, _, X4, rfl, rfl, rfl, (fun h => by cases h), ⟨rfl, q4.trans hh2⟩, fun fs hl => c6.trans (X4.ireturnOut hexec hret (by rcases hc with rfl | rfl <;> rfl) (Or.inr (Or.inl rfl)) (hb hbytes d18) hl)⟩
end IsL
namespace LChA
def yN : MethodName := ⟨"java/lang/StringLatin1", "charAt", "([BI)C"⟩
abbrev yB : ByteArray := jdk_43_method_2_code
theorem d0 : decode yB 0 = .ok (.iload_n 1, 1) := by decide +kernel
theorem d1 : decode yB 1 = .ok (.aload_n 0, 1) := by decide +kernel
theorem d2 : decode yB 2 = .ok (.arraylength, 1) := by decide +kernel
theorem d3 : decode yB 3 = .ok (.invokestatic 9, 3) := by decide +kernel
theorem d6 : decode yB 6 = .ok (.aload_n 0, 1) := by decide +kernel
theorem d7 : decode yB 7 = .ok (.iload_n 1, 1) := by decide +kernel
theorem d8 : decode yB 8 = .ok (.baload, 1) := by decide +kernel
theorem d9 : decode yB 9 = .ok (.sipush 255, 3) := by decide +kernel
theorem d12 : decode yB 12 = .ok (.iand, 1) := by decide +kernel
theorem d13 : decode yB 13 = .ok (.i2c, 1) := by decide +kernel
theorem d14 : decode yB 14 = .ok (.ireturn, 1) := by decide +kernel
def site : List Cond := [JO.Str_checkIndex.tab] ++ staticW "java/lang/StringLatin1" 9 JO.Str_checkIndex.yN
def tab : Cond := tabOf yN yB 2 (some .char) site
def P (t : Addr) (V : Cell) (i : Nat) (u : Int32) (fm : Value) (args : Array Value) (s : State) : Prop := args = #[.ref t, .int (Int32.ofNat i)] ∧ XT.Arr .byte t V s ∧ V.slots[i]? = some (.int u) ∧ (StaticIs s "jdk/internal/util/Preconditions" "SIOOBE_FORMATTER" "Ljava/util/function/BiFunction;" fm ∧ fm.isRef = true)
def E (u : Int32) (r : Option Value) (s w : State) : Prop := XT.PureE (some (.int (chr8 u))) r s w
theorem law (l : Launch) (t : Addr) (V : Cell) (i : Nat) (u : Int32) (fm : Value) : Law l yN 2 2 2 27 yB 2 (some .char) site (P t V i u fm) (E u) [] 0 0 := by
  refine Law.of_walk (plainFor_of_name (by decide +kernel)) (by decide +kernel) (by decide +kernel) (by decide) (fun _ _ h => by rw [h.1]; rfl) (fun _ U U' hal hh h => ⟨h.1, h.2.1.mv hal hh, h.2.2.1, h.2.2.2.1.there hal hh, h.2.2.2.2⟩) (fun r U U' V V' h1 hal h2 h => XT.PureE.mv r U U' V V' h1 hal h2 h) ?_
  intro p e s m args below meth c s₁ X0 hexec hbytes hml hret hlk hnm hown hh0 W hP
  obtain ⟨rfl, hV, hu, s1, rf⟩ := hP
  have v31 := hV.2.2.2
  have hi : i < V.slots.size := (Array.getElem?_eq_some_iff.mp hu).1
  have c1 : Steps p.tables e below (s₁.setTop (entryFrame m #[.ref t, .int (Int32.ofNat i)] 2)) (s₁.setTop (mkF m 0 #[.val (.ref t), .val (.int (Int32.ofNat i))] [])) := entry rfl
  have c2 : Steps p.tables e below (s₁.setTop (entryFrame m #[.ref t, .int (Int32.ofNat i)] 2)) (s₁.setTop (mkF m 3 #[.val (.ref t), .val (.int (Int32.ofNat i))] [.int (Int32.ofNat V.slots.size), .int (Int32.ofNat i)])) := c1.trans (by
    refine XS.iloadN X0.here hexec rfl (hb hbytes d0) rfl ?_
    refine XS.aloadN X0.here hexec rfl (hb hbytes d1) rfl rfl ?_
    refine X0.alen hexec (hV.mv X0.warmed.alike hh0) rfl rfl (hb hbytes d2) ?_
    exact Steps.refl _)
  obtain ⟨v3, T3, X3, E3, g3⟩ := X0.callS hexec (JO.Str_checkIndex.law l (Int32.ofNat i) (Int32.ofNat V.slots.size) fm) hown (wks W (staticW "java/lang/StringLatin1" 9 JO.Str_checkIndex.yN)) (wk W JO.Str_checkIndex.tab) (W := 0) (Nat.le_of_ble_eq_true rfl) (Nat.le_of_ble_eq_true rfl) (Nat.le_refl _) (Nat.le_refl _) (g := (mkF m 3 #[.val (.ref t), .val (.int (Int32.ofNat i))] [.int (Int32.ofNat V.slots.size), .int (Int32.ofNat i)])) rfl (by rw [hml]; rfl) c2 (argsL := [.int (Int32.ofNat i), .int (Int32.ofNat V.slots.size)]) (rest := []) rfl rfl (by show 2 * 0 + 0 ≤ _; decide) (hb hbytes d3) (⟨rfl, rf, s1.there X0.warmed.alike hh0, Int32.ofNat_not_neg (by omega), lt32 v31 hi⟩)
  obtain ⟨rfl, q3⟩ := E3
  have hh3 := q3.trans hh0
  have c4 : Steps p.tables e below (s₁.setTop (entryFrame m #[.ref t, .int (Int32.ofNat i)] 2)) (T3.setTop (mkF m 14 #[.val (.ref t), .val (.int (Int32.ofNat i))] [.int (chr8 u)])) := Steps.trans g3 (by
    refine XS.aloadN X3.here hexec rfl (hb hbytes d6) rfl rfl ?_
    refine XS.iloadN X3.here hexec rfl (hb hbytes d7) rfl ?_
    refine X3.aget hexec (hV.mv X3.warmed.alike hh3) rfl hu rfl rfl (hb hbytes d8) ?_
    refine sipushV X3.here hexec rfl 255 (hb hbytes d9) (by decide) ?_
    refine XS.iand X3.here hexec rfl (hb hbytes d12) rfl ?_
    refine i2c X3.here hexec rfl (hb hbytes d13) rfl ?_
    exact Steps.refl _)
  exact ⟨T3, some (.int (chr8 u)), _, _, _, X3, rfl, rfl, rfl, (fun h => by cases h), ⟨rfl, hh3⟩, fun fs hl => c4.trans (X3.ireturnOut hexec hret (narrow_c _) (Or.inr (Or.inr (Or.inr (Or.inl rfl)))) (hb hbytes d14) hl)⟩
end LChA
end StrChars
namespace StrChars.Road
open Jvm Sem ClassFile Op Lib Jvm.Stand Jvm.Free Jvm.Free.XT
open Jvm.Lib.Cold (StaticIs)
theorem consq {a : Array Value} {s : State} {c : Jvm.Cond} {L : List Jvm.Cond} (h0 : c.before a s = true) (h : ∀ w ∈ L, w.before a s = true) : ∀ w ∈ c :: L, w.before a s = true := fun w hw => (List.mem_cons.mp hw).elim (fun e => e ▸ h0) (h w)
/-- the words of String.length(), either coding -/
abbrev wordsLen : List Jvm.Cond := [.code Len.yN Len.yB 1 (some .int), .initialized ST, .fieldLink ST 9 ST "value" "[B", .fieldLink ST 38 ST "COMPACT_STRINGS" "Z", .fieldLink ST 15 ST "coder" "B", .code Cdr.yN Cdr.yB 1 (some .byte), .methodLink ST 335 Cdr.yN, .declares Cdr.yN, .selects ST Cdr.yN Cdr.yN, .instanceMethod Cdr.yN]
theorem tabLen_of {a : Array Value} {s : State} (h : ∀ w ∈ wordsLen, w.before a s = true) : Len.tab.before a s = true := by
  have hc : Cdr.tab.before a s = true := unparts (wk h (.code Cdr.yN Cdr.yB 1 (some .byte))) (wks h (.initialized Cdr.yN.cls :: Cdr.site))
  have q := consq hc h
  exact unparts (wk q (.code Len.yN Len.yB 1 (some .int))) (wks q (.initialized Len.yN.cls :: Len.site))
theorem movedLen {Z s : State} {a0 args : Array Value} (hZ : Z.Warmed39 s.vm) (hw : ∀ d ∈ wordsLen, d.before a0 Z = true) : ∀ d ∈ wordsLen, d.before args s = true := fun d hd => by
  have q := hw d hd
  have t : ∀ d ∈ wordsLen, d = .arrayClass .byte ∨ (d.onTables && d.keepsFace) = true := by decide +kernel
  rcases t d hd with rfl | t
  · exact RoadKit.mvA hZ q
  · exact RoadKit.mv hZ q t
/-- the bytes of the chars cs, low before high -/
def wideBytes : List Int32 → List Value
  | [] => []
  | c :: cs => .int (lo8 c) :: .int (hi8 c) :: wideBytes cs
theorem wide_lo (d : Value) : ∀ (cs : List Int32) (j : Nat), j < cs.length → (wideBytes cs).getD (2 * j) d = .int (lo8 (cs.getD j 0))
  | [], j, h => absurd h (Nat.not_lt_zero j)
  | c :: cs, 0, _ => rfl
  | c :: cs, j + 1, h => by
    have q := wide_lo d cs j (by simpa using h)
    rw [show 2 * (j + 1) = 2 * j + 1 + 1 from by omega]
    simpa [wideBytes] using q
theorem wide_hi (d : Value) : ∀ (cs : List Int32) (j : Nat), j < cs.length → (wideBytes cs).getD (2 * j + 1) d = .int (hi8 (cs.getD j 0))
  | [], j, h => absurd h (Nat.not_lt_zero j)
  | c :: cs, 0, _ => rfl
  | c :: cs, j + 1, h => by
    have q := wide_hi d cs j (by simpa using h)
    rw [show 2 * (j + 1) + 1 = 2 * j + 1 + 1 + 1 from by omega]
    simpa [wideBytes] using q
theorem low_at (d : Value) (cs : List Int32) (j : Nat) (h : j < cs.length) : (cs.map fun c => Value.int (lo8 c)).getD j d = .int (lo8 (cs.getD j 0)) := by
  simp [List.getD_eq_getElem?_getD, h]
/-- an array of N2 bytes vs codes the chars cs by the coder cd -/
def CodA (cs : List Int32) (cd N2 : Int32) (vs : List Value) : Prop := (cd = 0 ∧ N2 = Int32.ofNat cs.length ∧ vs = (cs.map fun c => Value.int (lo8 c)) ∧ ∀ c ∈ cs, ¬ 255 < c) ∨ (cd = 1 ∧ N2 = Int32.ofNat (2 * cs.length) ∧ vs = wideBytes cs ∧ ∃ c ∈ cs, 255 < c)
theorem CodA.cod {cs : List Int32} {cd N2 : Int32} {vs : List Value} {V : Cell} (h : CodA cs cd N2 vs) (hn : 2 * cs.length < 2 ^ 31) (hs : V.slots.size = N2.toNatClampNeg) (hv : RoadKit.Has V vs (.int 0)) : Cod cd cs.length (fun j => cs.getD j 0) V := by
  rcases h with ⟨rfl, rfl, rfl, h⟩ | ⟨rfl, rfl, rfl, c, hc, hw⟩
  · rw [n32 (by omega)] at hs
    exact Or.inl ⟨rfl, hs, fun j hj => ⟨by rw [hv j (by omega), low_at _ _ _ hj], by
      have e : cs.getD j 0 = cs[j] := by simp [List.getD_eq_getElem?_getD, hj]
      show ¬ 255 < cs.getD j 0
      rw [e]; exact h _ (List.getElem_mem _)⟩⟩
  · rw [n32 (by omega)] at hs
    obtain ⟨j, hj, rfl⟩ := List.getElem_of_mem hc
    exact Or.inr ⟨rfl, hs, fun j hj => ⟨by rw [hv _ (by omega), wide_lo _ _ _ hj], by rw [hv _ (by omega), wide_hi _ _ _ hj]⟩, j, hj, by
      have e : cs.getD j 0 = cs[j] := by simp [List.getD_eq_getElem?_getD, hj]
      show 255 < cs.getD j 0
      rw [e]; exact hw⟩
/-- an object of exactly java/lang/String, its two fields found: as the laws ask it -/
theorem strObj {Z U : State} {a0 : Array Value} {kI : Nat} (wi : (Jvm.Cond.instantiable ST kI).before a0 Z = true) (al : Z.vm.Alike U.vm) {x : Addr} {v0 c0 : Value} (E : RoadKit.Exa Z U.heap x ST) (V : RoadKit.Fld Z U.heap x ST "value" "[B" v0) (C : RoadKit.Fld Z U.heap x ST "coder" "B" c0) :
    ∃ (D : Cell) (fV fC : Field), Blank ST x D U ∧ Found ST "value" "[B" fV U ∧ Found ST "coder" "B" fC U ∧ D.slots[fV.slot]? = some v0 ∧ D.slots[fC.slot]? = some c0 ∧ RoadKit.slotOf Z ST "value" "[B" = fV.slot ∧ RoadKit.slotOf Z ST "coder" "B" = fC.slot := by
  obtain ⟨D, cfV, kV, iV, fV, hD, gV, stV, knV, obV, asV, slV⟩ := V
  obtain ⟨D', cfC, kC, iC, fC, hD', gC, stC, -, -, asC, slC⟩ := C
  cases hD.symm.trans hD'
  obtain ⟨D2, kD, e1, e2, e3, e4, e5⟩ := E
  cases hD.symm.trans e1
  obtain ⟨c2, k2, i1, i2, i3, -⟩ := Cond.instantiable_spec wi
  cases e2.symm.trans i1
  cases e3.symm.trans i2
  obtain ⟨kU, u1, u2⟩ := al.2.2 _ _ e3
  exact ⟨D, fV, fC, ⟨hD, ⟨knV, fun q hq => by rw [hq] at obV; cases obV⟩, by rw [al.findClass]; exact e2, kU, u1, by rw [u2]; exact i3, by rw [u2]; exact e5 i3⟩, ⟨SBG.found_only al ⟨cfV, kV, iV, gV⟩, stV⟩, ⟨SBG.found_only al ⟨cfC, kC, iC, gC⟩, stC⟩, slV, slC, by simp [RoadKit.slotOf, gV], by simp [RoadKit.slotOf, gC]⟩
theorem sta_is {Z U : State} (al : Z.vm.Alike U.vm) {C n d : String} {v : Value} (S : RoadKit.Sta Z U.heap C n d v) : StaticIs U C n d v := by
  obtain ⟨cfS, iS, kS, fS, st, cS, t1, t2, t3, t4, t5, t6, t7⟩ := S
  exact StaticIs.there (s := { Z with heap := U.heap }) ⟨cfS, iS, kS, fS, st, cS, t1, t2, t3, t4, t5, (fun q => by rw [q] at t6; cases t6), t7⟩ al rfl
/-- **length() OF SUCH A STRING** -/
theorem lenW {p : Program} {l : Launch} {e : Env} {R : Room} {s : State} {args : Array Value} {below : List Frame} {len W : Nat} {Z : State} {a0 : Array Value} {h : Heap} (hZ : Z.Warmed39 s.vm) (hw : ∀ d ∈ wordsLen, d.before a0 Z = true) {kI : Nat} (wi : (Jvm.Cond.instantiable ST kI).before a0 Z = true)
    {x t : Addr} {kb : ClassId} {cs : List Int32} {cd N2 z : Int32} {vs : List Value} (E : RoadKit.Exa Z h x ST) (V : RoadKit.Fld Z h x ST "value" "[B" (.ref t)) (C : RoadKit.Fld Z h x ST "coder" "B" (.int cd)) (K : RoadKit.Arv Z h t kb .byte N2 vs (.int 0)) (hc : CodA cs cd N2 vs) (hb : ∀ c ∈ cs, ¬ c < 0 ∧ ¬ (65535 : Int32) < c)
    (S : RoadKit.Sta Z h ST "COMPACT_STRINGS" "Z" (.int z)) (hz : ¬ z = 0) (l2 : cs.length ≤ 4000) (hfr : 2 ≤ R.frames) (hlo : W + 25 ≤ R.locals) :
    Back l R p e below s args (⟨"java/lang/String", "length", "()I"⟩ : MethodName) len W (fun P a => a = #[.ref x] ∧ P.U.heap = h ∧ P.cells + 0 ≤ R.cells ∧ P.slots + 0 ≤ R.slots)
      (fun P _ v B => ∃ L, (v = some (.int (Int32.ofNat cs.length)) ∧ L = [] ∧ B.U.heap = h) ∧ B.locs = P.locs ++ L ∧ B.cells = P.cells + 0 ∧ B.slots = P.slots + 0) := by
  obtain ⟨A, K1, K2, K3, K4, K5, K6⟩ := K
  have hcod := hc.cod (by omega) K3 K5
  intro m meth c P g ig mk a X hg hsize hdg hW hn hp'
  obtain ⟨rfl, rfl, r1, r2⟩ := hp'
  have al : Z.vm.Alike P.U.vm := hZ.alike.trans X.warmed.alike
  obtain ⟨D, fV, fC, hB, F1, F2, g1, g2, -, -⟩ := strObj wi al E V C
  have hx : Txt x t A cd cs.length (fun j => cs.getD j 0) P.U := ⟨⟨_, hB.2.2.1, D, hB.1, rfl, by cases q : D.vm <;> first | rfl | exact absurd q (hB.2.1.2 _)⟩, Has.of hB F1 g1, Has.of hB F2 g2, ⟨K1.1, State.isArrayOf_alike al K1.2.1, K1.2.2, by rcases hcod with ⟨-, q, -⟩ | ⟨-, q, -⟩ <;> omega⟩, hcod, fun j hj => by
    have e : cs.getD j 0 = cs[j] := by simp [List.getD_eq_getElem?_getD, hj]
    show ¬ cs.getD j 0 < 0 ∧ ¬ 65535 < cs.getD j 0
    rw [e]; exact hb _ (List.getElem_mem _)⟩
  obtain ⟨v, B, X', ⟨⟨hv, hh⟩, hl, hk, hs⟩, st⟩ := Len.pays x t A cd cs.length (fun j => cs.getD j 0) z (tabLen_of (movedLen hZ hw)) hfr hlo m meth c P g ig mk _ X hg hsize hdg hW hn ⟨r1, r2, rfl, hx, sta_is al S, hz⟩
  exact ⟨v, B, X', ⟨[], ⟨hv, rfl, hh⟩, hl, hk, hs⟩, st⟩
end StrChars.Road
namespace StrChars.Road
open Jvm Sem ClassFile Op Lib Jvm.Stand Jvm.Free Jvm.Free.XT
open Jvm.Lib.Cold (StaticIs)
/-- the road's facts of a String, as the laws ask it -/
theorem txt_of {Z U : State} {a0 : Array Value} {kI : Nat} (wi : (Jvm.Cond.instantiable ST kI).before a0 Z = true) (al : Z.vm.Alike U.vm) {x t : Addr} {kb : ClassId} {cs : List Int32} {cd N2 : Int32} {vs : List Value} (E : RoadKit.Exa Z U.heap x ST) (V : RoadKit.Fld Z U.heap x ST "value" "[B" (.ref t)) (C : RoadKit.Fld Z U.heap x ST "coder" "B" (.int cd)) (K : RoadKit.Arv Z U.heap t kb .byte N2 vs (.int 0)) (hc : CodA cs cd N2 vs) (hb : ∀ c ∈ cs, ¬ c < 0 ∧ ¬ (65535 : Int32) < c) (l2 : cs.length ≤ 4000) :
    ∃ A, Txt x t A cd cs.length (fun j => cs.getD j 0) U := by
  obtain ⟨A, K1, K2, K3, K4, K5, K6⟩ := K
  have hcod := hc.cod (by omega) K3 K5
  obtain ⟨D, fV, fC, hB, F1, F2, g1, g2, -, -⟩ := strObj wi al E V C
  exact ⟨A, ⟨_, hB.2.2.1, D, hB.1, rfl, by cases q : D.vm <;> first | rfl | exact absurd q (hB.2.1.2 _)⟩, Has.of hB F1 g1, Has.of hB F2 g2, ⟨K1.1, State.isArrayOf_alike al K1.2.1, K1.2.2, by rcases hcod with ⟨-, q, -⟩ | ⟨-, q, -⟩ <;> omega⟩, hcod, fun j hj => by
    have e : cs.getD j 0 = cs[j] := by simp [List.getD_eq_getElem?_getD, hj]
    show ¬ cs.getD j 0 < 0 ∧ ¬ 65535 < cs.getD j 0
    rw [e]; exact hb _ (List.getElem_mem _)⟩
end StrChars.Road
namespace StrChars
open Jvm Sem ClassFile Op Lib Jvm.Stand Jvm.Free.XT Jvm.Free.ALB Jvm.Free.JM Jvm.Free
open Jvm.Lib.Cold (StaticIs)
namespace ChN
def yN : MethodName := ⟨"java/lang/String", "charAt", "(I)C"⟩
abbrev yB : ByteArray := jdk_42_method_56_code
theorem d0 : decode yB 0 = .ok (.aload_n 0, 1) := by decide +kernel
theorem d1 : decode yB 1 = .ok (.invokevirtual 492, 3) := by decide +kernel
theorem d4 : decode yB 4 = .ok (.ifCond (.eq) 12, 3) := by decide +kernel
theorem d7 : decode yB 7 = .ok (.aload_n 0, 1) := by decide +kernel
theorem d8 : decode yB 8 = .ok (.getfield 9, 3) := by decide +kernel
theorem d11 : decode yB 11 = .ok (.iload_n 1, 1) := by decide +kernel
theorem d12 : decode yB 12 = .ok (.invokestatic 495, 3) := by decide +kernel
theorem d15 : decode yB 15 = .ok (.ireturn, 1) := by decide +kernel
def site : List Cond := [.fieldLink "java/lang/String" 9 "java/lang/String" "value" "[B", IsL.tab, LChA.tab] ++ virtW "java/lang/String" 492 "java/lang/String" IsL.yN IsL.yN ++ staticW "java/lang/String" 495 LChA.yN
def tab : Cond := tabOf yN yB 2 (some .char) site
def P (x t : Addr) (V : Cell) (n : Nat) (f : Nat → Int32) (z : Int32) (fm : Value) (i : Nat) (args : Array Value) (s : State) : Prop := args = #[.ref x, .int (Int32.ofNat i)] ∧ Txt x t V 0 n f s ∧ i < n ∧ StaticIs s "java/lang/String" "COMPACT_STRINGS" "Z" (.int z) ∧ ¬ z = 0 ∧ StaticIs s "jdk/internal/util/Preconditions" "SIOOBE_FORMATTER" "Ljava/util/function/BiFunction;" fm ∧ fm.isRef = true
def E (f : Nat → Int32) (i : Nat) (r : Option Value) (s u : State) : Prop := XT.PureE (some (.int (f i))) r s u
/-- charAt(i) of a Latin-1 String of n chars, i < n: f i -/
theorem law (l : Launch) (x t : Addr) (V : Cell) (n : Nat) (f : Nat → Int32) (z : Int32) (fm : Value) (i : Nat) : Law l yN 2 1 3 40 yB 2 (some .char) site (P x t V n f z fm i) (E f i) [] 0 0 := by
  refine Law.of_walk (plainFor_of_name (by decide +kernel)) (by decide +kernel) (by decide +kernel) (by decide) (fun _ _ h => by rw [h.1]; rfl) (fun _ U U' hal hh h => ⟨h.1, h.2.1.mv hal hh, h.2.2.1, h.2.2.2.1.there hal hh, h.2.2.2.2.1, h.2.2.2.2.2.1.there hal hh, h.2.2.2.2.2.2⟩) (fun r U U' V V' h1 hal h2 h => XT.PureE.mv r U U' V V' h1 hal h2 h) ?_
  intro p e s m args below meth c s₁ X0 hexec hbytes hml hret hlk hnm hown hh0 W hP
  obtain ⟨rfl, hx, hi, s1, hz, s3, rf⟩ := hP
  have v31 := hx.2.2.2.1.2.2.2
  have hr := hx.2.2.2.2.2 i hi
  have hx0 := hx.mv X0.warmed.alike hh0
  have c1 : Steps p.tables e below (s₁.setTop (entryFrame m #[.ref x, .int (Int32.ofNat i)] 2)) (s₁.setTop (mkF m 1 #[.val (.ref x), .val (.int (Int32.ofNat i))] [.ref x])) := Steps.trans (entry rfl) (by
    show Steps p.tables e below (s₁.setTop (mkF m 0 #[.val (.ref x), .val (.int (Int32.ofNat i))] [])) _
    refine XS.aloadN X0.here hexec rfl (hb hbytes d0) rfl rfl ?_
    exact Steps.refl _)
  obtain ⟨v2, T2, X2, E2, g2⟩ := X0.callV hexec (IsL.law l x 0 z) hown (wks W (virtW "java/lang/String" 492 "java/lang/String" IsL.yN IsL.yN)) rfl (by decide) (wk W IsL.tab) (W := 0) (Nat.le_of_ble_eq_true rfl) (Nat.le_of_ble_eq_true rfl) (Nat.le_refl _) (Nat.le_refl _) (hx0.1.fc X0.warmed.alike) hx0.1.is (g := (mkF m 1 #[.val (.ref x), .val (.int (Int32.ofNat i))] [.ref x])) rfl (by rw [hml]; rfl) c1 (argsL := []) (rest := []) rfl rfl (by show 2 * 0 + 0 ≤ _; decide) (hb hbytes d1) (⟨rfl, hx0.2.2.1, hx.2.2.2.2.1.cd, s1.there X0.warmed.alike hh0, hz⟩)
  obtain ⟨rfl, q2⟩ := E2
  have hh2 := q2.trans hh0
  have hx2 := hx.mv X2.warmed.alike hh2
  obtain ⟨-, k1, k2⟩ | ⟨k0, -⟩ := hx.2.2.2.2.1
  · have c3 : Steps p.tables e below (s₁.setTop (entryFrame m #[.ref x, .int (Int32.ofNat i)] 2)) (T2.setTop (mkF m 8 #[.val (.ref x), .val (.int (Int32.ofNat i))] [.ref x])) := Steps.trans g2 (by
      refine XS.ifNo X2.here hexec rfl (hb hbytes d4) rfl (i0_eq_f (by decide)) ?_
      refine XS.aloadN X2.here hexec rfl (hb hbytes d7) rfl rfl ?_
      exact Steps.refl _)
    obtain ⟨T4, X4, q4, st4⟩ := X2.hget hexec hown (wk W (.fieldLink "java/lang/String" 9 "java/lang/String" "value" "[B")) hx2.2.1 (g := (mkF m 8 #[.val (.ref x), .val (.int (Int32.ofNat i))] [.ref x])) rfl (rest := []) rfl (hb hbytes d8)
    have hh4 := q4.trans hh2
    have c5 : Steps p.tables e below (s₁.setTop (entryFrame m #[.ref x, .int (Int32.ofNat i)] 2)) (T4.setTop (mkF m 12 #[.val (.ref x), .val (.int (Int32.ofNat i))] [.int (Int32.ofNat i), .ref t])) := (c3.trans (st4 _ (Steps.refl _))).trans (by
      refine XS.iloadN X4.here hexec rfl (hb hbytes d11) rfl ?_
      exact Steps.refl _)
    obtain ⟨v6, T6, X6, E6, g6⟩ := X4.callS hexec (LChA.law l t V i (lo8 (f i)) fm) hown (wks W (staticW "java/lang/String" 495 LChA.yN)) (wk W LChA.tab) (W := 0) (Nat.le_of_ble_eq_true rfl) (Nat.le_of_ble_eq_true rfl) (Nat.le_refl _) (Nat.le_refl _) (g := (mkF m 12 #[.val (.ref x), .val (.int (Int32.ofNat i))] [.int (Int32.ofNat i), .ref t])) rfl (by rw [hml]; rfl) c5 (argsL := [.ref t, .int (Int32.ofNat i)]) (rest := []) rfl rfl (by show 2 * 0 + 0 ≤ _; decide) (hb hbytes d12) (⟨rfl, hx.2.2.2.1.mv X4.warmed.alike hh4, (k2 i hi).1, s3.there X4.warmed.alike hh4, rf⟩)
    obtain ⟨rfl, q6⟩ := E6
    rw [chr8_lo8 hr.1 (k2 i hi).2] at g6
    exact ⟨T6, some (.int (f i)), _, _, _, X6, rfl, rfl, rfl, (fun h => by cases h), ⟨rfl, q6.trans hh4⟩, fun fs hl => Steps.trans g6 (X6.ireturnOut hexec hret (narrow_ch hr.1 hr.2) (Or.inr (Or.inr (Or.inr (Or.inl rfl)))) (hb hbytes d15) hl)⟩
  · exact absurd k0 (by decide)
theorem pays {l : Launch} {R : Room} {p : Program} {e : Env} {below : List Frame} {s : State} {sargs : Array Value} {len W : Nat} (x t : Addr) (V : Cell) (n : Nat) (f : Nat → Int32) (z : Int32) (fm : Value) (i : Nat) (htab : tab.before sargs s = true) (hfr : 4 ≤ R.frames) (hlo : W + 53 ≤ R.locals) :
    Back l R p e below s sargs yN len W (fun A₁ a₁ => A₁.cells + 0 ≤ R.cells ∧ A₁.slots + 0 ≤ R.slots ∧ P x t V n f z fm i a₁ A₁.U) (fun A₁ _ v₁ B₁ => E f i v₁ A₁.U B₁.U ∧ B₁.locs = A₁.locs ++ [] ∧ B₁.cells = A₁.cells + 0 ∧ B₁.slots = A₁.slots + 0) :=
  (law l x t V n f z fm i).pays htab hfr (by omega)
end ChN
end StrChars
namespace StrChars.Road
open Jvm Sem ClassFile Op Lib Jvm.Stand Jvm.Free Jvm.Free.XT
open Jvm.Lib.Cold (StaticIs)
/-- the words of String.charAt(int), the Latin-1 road alone -/
abbrev wordsChN : List Jvm.Cond := [.code ChN.yN ChN.yB 2 (some .char), .initialized ST, .fieldLink ST 9 ST "value" "[B", .fieldLink ST 38 ST "COMPACT_STRINGS" "Z", .fieldLink ST 15 ST "coder" "B", .code IsL.yN IsL.yB 1 (some .boolean), .methodLink ST 492 IsL.yN, .declares IsL.yN, .selects ST IsL.yN IsL.yN, .instanceMethod IsL.yN,
  .methodLink ST 495 LChA.yN, .static LChA.yN, .code LChA.yN LChA.yB 2 (some .char), .initialized "java/lang/StringLatin1", .methodLink "java/lang/StringLatin1" 9 JO.Str_checkIndex.yN, .static JO.Str_checkIndex.yN, .code JO.Str_checkIndex.yN JO.Str_checkIndex.yB 2 none,
  .fieldLink ST 1053 "jdk/internal/util/Preconditions" "SIOOBE_FORMATTER" "Ljava/util/function/BiFunction;", .methodLink ST 1059 JC.PreCheck.yN, .static JC.PreCheck.yN, .code JC.PreCheck.yN JC.PreCheck.yB 3 (some .int), .initialized "jdk/internal/util/Preconditions"]
theorem tabChN_of {a : Array Value} {s : State} (h : ∀ w ∈ wordsChN, w.before a s = true) : ChN.tab.before a s = true := by
  have hp : JC.PreCheck.tab.before a s = true := unparts (wk h (.code JC.PreCheck.yN JC.PreCheck.yB 3 (some .int))) (wks h (.initialized JC.PreCheck.yN.cls :: JC.PreCheck.site))
  have qk := consq hp h
  have hk : JO.Str_checkIndex.tab.before a s = true := unparts (wk qk (.code JO.Str_checkIndex.yN JO.Str_checkIndex.yB 2 none)) (wks qk (.initialized JO.Str_checkIndex.yN.cls :: JO.Str_checkIndex.site))
  have ql := consq hk h
  have hl : LChA.tab.before a s = true := unparts (wk ql (.code LChA.yN LChA.yB 2 (some .char))) (wks ql (.initialized LChA.yN.cls :: LChA.site))
  have hi : IsL.tab.before a s = true := unparts (wk h (.code IsL.yN IsL.yB 1 (some .boolean))) (wks h (.initialized IsL.yN.cls :: IsL.site))
  have q := consq hi (consq hl h)
  exact unparts (wk q (.code ChN.yN ChN.yB 2 (some .char))) (wks q (.initialized ChN.yN.cls :: ChN.site))
theorem movedChN {Z s : State} {a0 args : Array Value} (hZ : Z.Warmed39 s.vm) (hw : ∀ d ∈ wordsChN, d.before a0 Z = true) : ∀ d ∈ wordsChN, d.before args s = true := fun d hd => by
  have t : ∀ d ∈ wordsChN, (d.onTables && d.keepsFace) = true := by decide +kernel
  exact RoadKit.mv hZ (hw d hd) (t d hd)
/-- **charAt(i) OF A LATIN-1 STRING**, i < n: the char -/
theorem chN {p : Program} {l : Launch} {e : Env} {R : Room} {s : State} {args : Array Value} {below : List Frame} {len W : Nat} {Z : State} {a0 : Array Value} {h : Heap} (hZ : Z.Warmed39 s.vm) (hw : ∀ d ∈ wordsChN, d.before a0 Z = true) {kI : Nat} (wi : (Jvm.Cond.instantiable ST kI).before a0 Z = true)
    {x t : Addr} {kb : ClassId} {cs : List Int32} {N2 z : Int32} {vs : List Value} {fm : Value} {i : Nat} {j : Int32} (E : RoadKit.Exa Z h x ST) (V : RoadKit.Fld Z h x ST "value" "[B" (.ref t)) (C : RoadKit.Fld Z h x ST "coder" "B" (.int 0)) (K : RoadKit.Arv Z h t kb .byte N2 vs (.int 0)) (hc : CodA cs 0 N2 vs) (hb : ∀ c ∈ cs, ¬ c < 0 ∧ ¬ (65535 : Int32) < c)
    (S : RoadKit.Sta Z h ST "COMPACT_STRINGS" "Z" (.int z)) (hz : ¬ z = 0) (F : RoadKit.Sta Z h "jdk/internal/util/Preconditions" "SIOOBE_FORMATTER" "Ljava/util/function/BiFunction;" fm) (rf : fm.isRef = true) (l2 : cs.length ≤ 4000) (hi : i < cs.length) (hj : j = Int32.ofNat i) (hfr : 4 ≤ R.frames) (hlo : W + 53 ≤ R.locals) :
    Back l R p e below s args (⟨"java/lang/String", "charAt", "(I)C"⟩ : MethodName) len W (fun P a => a = #[.ref x, .int j] ∧ P.U.heap = h ∧ P.cells + 0 ≤ R.cells ∧ P.slots + 0 ≤ R.slots)
      (fun P _ v B => ∃ L, (v = some (.int (cs.getD i 0)) ∧ L = [] ∧ B.U.heap = h) ∧ B.locs = P.locs ++ L ∧ B.cells = P.cells + 0 ∧ B.slots = P.slots + 0) := by
  subst hj
  intro m meth c P g ig mk a X hg hsize hdg hW hn hp'
  obtain ⟨rfl, rfl, r1, r2⟩ := hp'
  have al : Z.vm.Alike P.U.vm := hZ.alike.trans X.warmed.alike
  obtain ⟨A, hx⟩ := txt_of wi al E V C K hc hb l2
  obtain ⟨v, B, X', ⟨⟨hv, hh⟩, hl, hk, hs⟩, st⟩ := ChN.pays x t A cs.length (fun j => cs.getD j 0) z fm i (tabChN_of (movedChN hZ hw)) hfr hlo m meth c P g ig mk _ X hg hsize hdg hW hn ⟨r1, r2, rfl, hx, hi, sta_is al S, hz, sta_is al F, rf⟩
  exact ⟨v, B, X', ⟨[], ⟨hv, rfl, hh⟩, hl, hk, hs⟩, st⟩
/-- what backV says of its String, as the contracts of this text ask it: cs's low bytes, coder 0 -/
theorem codOf {cs : List Int32} {n : Nat} (hn : cs.length = n) (hb : ∀ c ∈ cs, ¬ 255 < c) : CodA cs 0 (Int32.ofNat n) ((cs.map lo8).map Value.int) := Or.inl ⟨rfl, by rw [hn], by simp [List.map_map, Function.comp_def], hb⟩
end StrChars.Road
end Jvm.Pilot.@@N@@

namespace Jvm.Pilot.@@N@@
open Jvm Jvm.ClassFile Sem Op Lib Jvm.Free Jvm.Stand Jvm.LawKit Jvm.RoadKit Bundle Jvm.Pilot.@@N@@.Jvm.D
abbrev own_Go (p : Program) (e : Env) (below : List Frame) (A B : State) : Prop := ∀ t, Steps p.tables e below A t → Steps p.tables e below B t
abbrev own_At (p : Program) (e : Env) (below : List Frame) (T : State) (m : MethodId) (pc : Nat) (L : Array Slot) (S : List Value) (t : State) : Prop := Steps p.tables e below (T.setTop (mkF m pc L S)) t
section OwnArr
variable {Z : State} {h h' : Heap} {a b : Addr} {ty : FieldType} {n i : Nat} {f : Nat → Value} {v : Value}
def own_Av (Z : State) (h : Heap) (a : Addr) (ty : FieldType) (n : Nat) (f : Nat → Value) : Prop := ∃ c : Cell, Arr Z h a c ty ∧ c.slots.size = n ∧ n < 2 ^ 31 ∧ ∀ j, j < n → c.slots[j]? = some (f j)
theorem own_Av.lt (F : own_Av Z h a ty n f) : a < h.size := by obtain ⟨c, A, -⟩ := F; exact A.lt
theorem own_Av.ext (F : own_Av Z h a ty n f) (E : Ext h h') : own_Av Z h' a ty n f := by obtain ⟨c, A, r⟩ := F; exact ⟨c, A.ext E, r⟩
theorem own_Av.other {sl : Nat} (F : own_Av Z h a ty n f) (W : Wr h h' b sl v) (q : a ≠ b) : own_Av Z h' a ty n f := by obtain ⟨c, A, r⟩ := F; exact ⟨c, A.other W q, r⟩
theorem own_Av.keep {ws : List Addr} (F : own_Av Z h a ty n f) (K : Keep h h' ws) (q : a ∉ ws) : own_Av Z h' a ty n f := by obtain ⟨c, A, r⟩ := F; exact ⟨c, ⟨K.2.1 a c A.1 q, A.2⟩, r⟩
theorem own_Av.congr {g : Nat → Value} (F : own_Av Z h a ty n f) (q : ∀ j, j < n → f j = g j) : own_Av Z h a ty n g := by obtain ⟨c, A, r1, r2, r3⟩ := F; exact ⟨c, A, r1, r2, fun j hj => by rw [r3 j hj, q j hj]⟩
theorem own_Av.new {k : ClassId} {z : Int32} (A : Arr Z h a (newA k ty z) ty) (hz : ¬ z < 0) (hn : z.toNatClampNeg = n) : own_Av Z h a ty n (fun _ => defaultValue ty) := by
  refine ⟨_, A, (sz_new _ _ _).trans hn, hn ▸ (back32 hz).2, fun j hj => ?_⟩
  simp [newA, hn, hj]
theorem own_Av.set (F : own_Av Z h a ty n f) (W : Wr h h' a i v) : own_Av Z h' a ty n (fun q => if q = i then v else f q) := by
  obtain ⟨c, A, r1, r2, r3⟩ := F
  refine ⟨_, A.same W, (sz_set _ _ _).trans r1, r2, fun j hj => ?_⟩
  have e : (c.setSlot i v).slots = c.slots.setIfInBounds i v := rfl
  rw [e, Array.getElem?_setIfInBounds]
  by_cases q : i = j
  · subst q
    simp [r1, hj]
  · have q' : ¬ j = i := fun z => q z.symm
    simp [q, q', r3 j hj]
end OwnArr
section OwnArrSteps
variable {p : Program} {l : Launch} {e : Env} {R : Room} {s : State} {m : MethodId} {args : Array Value} {below : List Frame} {meth : Method} {c : Code} {T : State} {locs : List Loc} {cells slots : Nat} {Z : State} {h : Heap} {a : Addr} {n i : Nat} {f : Nat → Value} {v : Value}
theorem own_in {c : Cell} {j : Int32} (r1 : c.slots.size = n) (h1 : ¬ j < 0) (h2 : j.toNatClampNeg = i) (h3 : i < n) : ¬ (j < 0 ∨ c.slots.size ≤ j.toNatClampNeg) := fun q => q.elim h1 fun z => by rw [r1, h2] at z; exact absurd h3 (Nat.not_lt.mpr z)
theorem own_iaload (X : Stand p l e R s m args below meth c T locs cells slots) (hx : p.tables.exec = Jvm.exec) (hZ : Z.Warmed39 s.vm) (eT : T.heap = h) (F : own_Av Z h a .int n f) {j : Int32} (h1 : ¬ j < 0) (h2 : j.toNatClampNeg = i) (h3 : i < n) (h4 : f i = v)
    {g : JFrame} (hg : g.method = m) {rest : List Value} (hs : g.stack = .int j :: .ref a :: rest) (hd : decode c.code g.pc = .ok (.iaload, 1)) : ∀ target, Steps p.tables e below (T.setTop { g with pc := g.pc + 1, stack := v :: rest }) target → Steps p.tables e below (T.setTop g) target := by
  obtain ⟨cl, A, r1, r2, r3⟩ := F
  intro t k
  exact X.iaload hx (by rw [eT]; exact A.1) (State.isArrayOf_alike hZ.alike A.2.1) A.2.2 (own_in r1 h1 h2 h3) (by rw [h2, r3 i h3, h4]) hg hs hd t k
theorem own_laload (X : Stand p l e R s m args below meth c T locs cells slots) (hx : p.tables.exec = Jvm.exec) (hZ : Z.Warmed39 s.vm) (eT : T.heap = h) (F : own_Av Z h a .long n f) {j : Int32} (h1 : ¬ j < 0) (h2 : j.toNatClampNeg = i) (h3 : i < n) (h4 : f i = v)
    {g : JFrame} (hg : g.method = m) {rest : List Value} (hs : g.stack = .int j :: .ref a :: rest) (hd : decode c.code g.pc = .ok (.laload, 1)) : ∀ target, Steps p.tables e below (T.setTop { g with pc := g.pc + 1, stack := v :: rest }) target → Steps p.tables e below (T.setTop g) target := by
  obtain ⟨cl, A, r1, r2, r3⟩ := F
  intro t k
  exact X.laload hx (by rw [eT]; exact A.1) (State.isArrayOf_alike hZ.alike A.2.1) A.2.2 (own_in r1 h1 h2 h3) (by rw [h2, r3 i h3, h4]) hg hs hd t k
theorem own_aaload {ty : FieldType} (hty : ty.isReference = true) (X : Stand p l e R s m args below meth c T locs cells slots) (hx : p.tables.exec = Jvm.exec) (hZ : Z.Warmed39 s.vm) (eT : T.heap = h) (F : own_Av Z h a ty n f) {j : Int32} (h1 : ¬ j < 0) (h2 : j.toNatClampNeg = i) (h3 : i < n) (h4 : f i = v)
    {g : JFrame} (hg : g.method = m) {rest : List Value} (hs : g.stack = .int j :: .ref a :: rest) (hd : decode c.code g.pc = .ok (.aaload, 1)) : ∀ target, Steps p.tables e below (T.setTop { g with pc := g.pc + 1, stack := v :: rest }) target → Steps p.tables e below (T.setTop g) target := by
  obtain ⟨cl, A, r1, r2, r3⟩ := F
  intro t k
  exact X.aaload hx (by rw [eT]; exact A.1) (State.isArrayOf_alike hZ.alike A.2.1) hty A.2.2 (own_in r1 h1 h2 h3) (by rw [h2, r3 i h3, h4]) hg hs hd t k
theorem own_caload (X : Stand p l e R s m args below meth c T locs cells slots) (hx : p.tables.exec = Jvm.exec) (hZ : Z.Warmed39 s.vm) (eT : T.heap = h) (F : own_Av Z h a .char n f) {j : Int32} (h1 : ¬ j < 0) (h2 : j.toNatClampNeg = i) (h3 : i < n) (h4 : f i = v)
    {g : JFrame} (hg : g.method = m) {rest : List Value} (hs : g.stack = .int j :: .ref a :: rest) (hd : decode c.code g.pc = .ok (.caload, 1)) : ∀ target, Steps p.tables e below (T.setTop { g with pc := g.pc + 1, stack := v :: rest }) target → Steps p.tables e below (T.setTop g) target := by
  obtain ⟨cl, A, r1, r2, r3⟩ := F
  intro t k
  exact X.caload hx (by rw [eT]; exact A.1) (State.isArrayOf_alike hZ.alike A.2.1) A.2.2 (own_in r1 h1 h2 h3) (by rw [h2, r3 i h3, h4]) hg hs hd t k
theorem own_alen {ty : FieldType} (X : Stand p l e R s m args below meth c T locs cells slots) (hx : p.tables.exec = Jvm.exec) (hZ : Z.Warmed39 s.vm) (eT : T.heap = h) (F : own_Av Z h a ty n f)
    {g : JFrame} (hg : g.method = m) {rest : List Value} (hs : g.stack = .ref a :: rest) (hd : decode c.code g.pc = .ok (.arraylength, 1)) : ∀ target, Steps p.tables e below (T.setTop { g with pc := g.pc + 1, stack := .int (Int32.ofNat n) :: rest }) target → Steps p.tables e below (T.setTop g) target := by
  obtain ⟨cl, A, r1, r2, r3⟩ := F
  intro t k
  refine X.arraylength hx (by rw [eT]; exact A.1) (State.isArrayOf_alike hZ.alike A.2.1) hg hs hd t ?_
  rw [r1]
  exact k
theorem own_iastore (X : Stand p l e R s m args below meth c T locs cells slots) (hx : p.tables.exec = Jvm.exec) (hZ : Z.Warmed39 s.vm) (eT : T.heap = h) (F : own_Av Z h a .int n f) {j x : Int32} (h1 : ¬ j < 0) (h2 : j.toNatClampNeg = i) (h3 : i < n)
    {g : JFrame} (hg : g.method = m) {rest : List Value} (hs : g.stack = .int x :: .int j :: .ref a :: rest) (hd : decode c.code g.pc = .ok (.iastore, 1)) :
    ∃ T' h', Stand p l e R s m args below meth c T' (locs ++ [⟨a, i⟩]) cells slots ∧ T'.heap = h' ∧ Wr h h' a i (.int x) ∧ own_Av Z h' a .int n (fun q => if q = i then .int x else f q) ∧ ∀ target, Steps p.tables e below (T'.setTop { g with pc := g.pc + 1, stack := rest }) target → Steps p.tables e below (T.setTop g) target := by
  have F0 := F
  obtain ⟨cl, A, r1, r2, r3⟩ := F
  obtain ⟨T', h', X', e', W', st'⟩ := stI X hx hZ eT A (own_in r1 h1 h2 h3) hg hs hd
  rw [h2] at X' W'
  exact ⟨T', h', X', e', W', F0.set W', st'⟩
theorem own_lastore (X : Stand p l e R s m args below meth c T locs cells slots) (hx : p.tables.exec = Jvm.exec) (hZ : Z.Warmed39 s.vm) (eT : T.heap = h) (F : own_Av Z h a .long n f) {j : Int32} {x : Int64} (h1 : ¬ j < 0) (h2 : j.toNatClampNeg = i) (h3 : i < n)
    {g : JFrame} (hg : g.method = m) {rest : List Value} (hs : g.stack = .long x :: .int j :: .ref a :: rest) (hd : decode c.code g.pc = .ok (.lastore, 1)) :
    ∃ T' h', Stand p l e R s m args below meth c T' (locs ++ [⟨a, i⟩]) cells slots ∧ T'.heap = h' ∧ Wr h h' a i (.long x) ∧ own_Av Z h' a .long n (fun q => if q = i then .long x else f q) ∧ ∀ target, Steps p.tables e below (T'.setTop { g with pc := g.pc + 1, stack := rest }) target → Steps p.tables e below (T.setTop g) target := by
  have F0 := F
  obtain ⟨cl, A, r1, r2, r3⟩ := F
  obtain ⟨T', h', X', e', W', st'⟩ := stJ X hx hZ eT A (own_in r1 h1 h2 h3) hg hs hd
  rw [h2] at X' W'
  exact ⟨T', h', X', e', W', F0.set W', st'⟩
end OwnArrSteps
section OwnCp
variable {p : Program} {l : Launch} {e : Env} {R : Room} {s : State} {m : MethodId} {args : Array Value} {below : List Frame} {meth : Method} {c : Code} {T : State} {locs : List Loc} {cells slots : Nat} {Z : State} {h : Heap} {a b : Addr} {n n' i j k : Nat} {f f' : Nat → Value} {v : Value}
theorem own_nat32 {n : Nat} (h : n < 2 ^ 31) : (Int32.ofNat n).toNatClampNeg = n ∧ ¬ Int32.ofNat n < 0 := by
  have e : (Int32.ofNat n).toInt = n := Int32.toInt_ofNat_small h
  have e0 : (0 : Int32).toInt = 0 := rfl
  refine ⟨?_, ?_⟩
  · show (Int32.ofNat n).toInt.toNat = n
    rw [e]; rfl
  · rw [Int32.lt_iff_toInt_lt, e, e0]
    omega
theorem own_Av.arv {ty : FieldType} (F : own_Av Z h a ty n f) (d : Value) (hf : ∀ q, q < n → fits ty (f q) = true) : ∃ k, Arv Z h a k ty (Int32.ofNat n) ((List.range n).map f) d := by
  obtain ⟨cl, A, r1, r2, r3⟩ := F
  have hg : ∀ q, q < n → ((List.range n).map f).getD q d = f q := fun q hq => by simp [List.getD, hq]
  refine ⟨cl.cls, cl, A, rfl, ?_, (own_nat32 r2).2, fun q hq => ?_, fun q hq => ?_⟩
  · rw [r1, (own_nat32 r2).1]
  · rw [r1] at hq
    rw [r3 q hq, hg q hq]
  · rw [r1] at hq
    rw [hg q hq]; exact hf q hq
theorem own_Av.ofArv {ty : FieldType} {kc : ClassId} {vs : List Value} {d : Value} {g : Nat → Value} (hn : n < 2 ^ 31) (F : Arv Z h a kc ty (Int32.ofNat n) vs d) (hg : ∀ q, q < n → vs.getD q d = g q) : own_Av Z h a ty n g := by
  obtain ⟨cl, A, r0, r1, r2, H, G⟩ := F
  rw [(own_nat32 hn).1] at r1
  exact ⟨cl, A, r1, hn, fun q hq => by rw [H q (by rw [r1]; exact hq), hg q hq]⟩
theorem own_Av.small {ty : FieldType} (F : own_Av Z h a ty n f) : n < 2 ^ 31 := by obtain ⟨cl, A, r1, r2, r3⟩ := F; exact r2
theorem own_splice {f g : Nat → Value} {d : Value} {i j k n n' : Nat} (h4 : i + k ≤ n) (h5 : j + k ≤ n') (q : Nat) (hq : q < n') :
    (((List.range n').map g).take j ++ ((List.range k).map fun z => ((List.range n).map f).getD (i + z) d) ++ ((List.range n').map g).drop (j + k)).getD q d = if j ≤ q ∧ q < j + k then f (i + (q - j)) else g q := by
  have e1 : (((List.range n').map g).take j).length = j := by simp; omega
  have e2 : ((List.range k).map fun z => ((List.range n).map f).getD (i + z) d).length = k := by simp
  have e3 : (((List.range n').map g).take j ++ ((List.range k).map fun z => ((List.range n).map f).getD (i + z) d)).length = j + k := by rw [List.length_append, e1, e2]
  simp only [List.getD_eq_getElem?_getD] at e2 e3 ⊢
  by_cases q1 : q < j
  · rw [if_neg (by omega), List.getElem?_append_left (by rw [e3]; omega), List.getElem?_append_left (by rw [e1]; exact q1), List.getElem?_take_of_lt q1]
    simp [hq]
  · by_cases q2 : q < j + k
    · rw [if_pos ⟨by omega, q2⟩, List.getElem?_append_left (by rw [e3]; exact q2), List.getElem?_append_right (by rw [e1]; omega), e1]
      have z1 : q - j < k := by omega
      have z2 : i + (q - j) < n := by omega
      simp [z1, z2]
    · rw [if_neg (by omega), List.getElem?_append_right (by rw [e3]; omega), e3, List.getElem?_drop]
      have z1 : j + k + (q - (j + k)) = q := by omega
      rw [z1]
      simp [hq]
theorem own_cp {ty : FieldType} {a0 : Array Value} {own : String} {index : Nat} {n0 : Nat} (X : Stand p l e R s m args below meth c T locs cells slots) (hx : p.tables.exec = Jvm.exec) (hZ : Z.Warmed39 s.vm) (hown : s.vm.findClass own = some m.cls)
    (w1 : (Cond.methodLink own index Jvm.Stand.acN).before a0 Z = true) (w2 : (Cond.native Jvm.Stand.acN).before a0 Z = true) (w3 : (Cond.static Jvm.Stand.acN).before a0 Z = true) (w4 : (Cond.initialized "java/lang/System").before a0 Z = true) (eT : T.heap = h)
    (hty : refKind ty = false) (A : own_Av Z h a ty n f) (B : own_Av Z h b ty n' f') (fa : ∀ q, q < n → fits ty (f q) = true) (fb : ∀ q, q < n' → fits ty (f' q) = true)
    {sp dp nn : Int32} (h1 : ¬ sp < 0) (h1' : sp.toNatClampNeg = i) (h2 : ¬ dp < 0) (h2' : dp.toNatClampNeg = j) (h3 : ¬ nn < 0) (h3' : nn.toNatClampNeg = k) (h4 : i + k ≤ n) (h5 : j + k ≤ n') (N : Fr n0 locs) (ge : n0 ≤ b)
    {g : JFrame} (hg : g.method = m) (hsize : g.locals.size = c.maxLocals) {rest : List Value} (hs : g.stack = .int nn :: .int dp :: .ref b :: .int sp :: .ref a :: rest) (hd : decode c.code g.pc = .ok (.invokestatic index, 3))
    (hf : 1 ≤ R.frames) {W : Nat} (hW : 2 * g.monitorRoom + (rest.map fun v => v.category).sum ≤ W) (hlo : W + 18 ≤ R.locals) :
    ∃ T' h' L, Stand p l e R s m args below meth c T' L cells slots ∧ T'.heap = h' ∧ Fr n0 L ∧ Keep h h' [b] ∧ own_Av Z h' b ty n' (fun q => if j ≤ q ∧ q < j + k then f (i + (q - j)) else f' q) ∧
      ∀ target, Steps p.tables e below (T'.setTop { g with pc := g.pc + 3, stack := rest }) target → Steps p.tables e below (T.setTop g) target := by
  have sa := A.small
  have sb := B.small
  obtain ⟨ka, A'⟩ := A.arv (.int 0) fa
  obtain ⟨kb, B'⟩ := B.arv (.int 0) fb
  obtain ⟨T', h', L, X', e', N', K', V', st'⟩ := cpA X hx hZ hown w1 w2 w3 w4 eT A' B' (Or.inl ⟨rfl, hty⟩) h1 h2 h3 (by rw [h1', h3', (own_nat32 sa).1]; exact h4) (by rw [h2', h3', (own_nat32 sb).1]; exact h5) rfl (by rw [h2', h3']; simpa using h5) N ge hg hsize hs hd hf hW (by
    have q : nativeFrameWords "java/lang/System" "arraycopy" 5 = 7 := by decide
    rw [q]; exact hlo)
  rw [h1', h2', h3'] at V'
  exact ⟨T', h', L, X', e', N', K', own_Av.ofArv sb V' (fun q hq => own_splice h4 h5 q hq), st'⟩
end OwnCp
section OwnChr
variable {p : Program} {l : Launch} {e : Env} {R : Room} {s : State} {m : MethodId} {args : Array Value} {below : List Frame} {meth : Method} {c : Code} {T : State} {locs : List Loc} {cells slots : Nat} {Z : State} {h : Heap} {a : Addr} {n i : Nat} {f : Nat → Value}
theorem own_castore (X : Stand p l e R s m args below meth c T locs cells slots) (hx : p.tables.exec = Jvm.exec) (hZ : Z.Warmed39 s.vm) (eT : T.heap = h) (F : own_Av Z h a .char n f) {j x : Int32} (h1 : ¬ j < 0) (h2 : j.toNatClampNeg = i) (h3 : i < n)
    {g : JFrame} (hg : g.method = m) {rest : List Value} (hs : g.stack = .int x :: .int j :: .ref a :: rest) (hd : decode c.code g.pc = .ok (.castore, 1)) :
    ∃ T' h', Stand p l e R s m args below meth c T' (locs ++ [⟨a, i⟩]) cells slots ∧ T'.heap = h' ∧ Wr h h' a i (.int (nar .char x)) ∧ own_Av Z h' a .char n (fun q => if q = i then .int (nar .char x) else f q) ∧ ∀ target, Steps p.tables e below (T'.setTop { g with pc := g.pc + 1, stack := rest }) target → Steps p.tables e below (T.setTop g) target := by
  have F0 := F
  obtain ⟨cl, A, r1, r2, r3⟩ := F
  obtain ⟨T', h', X', e', W', st'⟩ := stC X hx hZ eT A (own_in r1 h1 h2 h3) hg hs hd
  rw [h2] at X' W'
  exact ⟨T', h', X', e', W', F0.set W', st'⟩
end OwnChr

def own_draw (u : Int32) : Int32 := if ((u.toUInt32 >>> ((8 : Int32) &&& 31).toUInt32).toInt32) &&& 3 = 0 then 32 else if ((u.toUInt32 >>> ((8 : Int32) &&& 31).toUInt32).toInt32) &&& 3 = 1 then 9 else (u &&& 255)
theorem own_i2c (u : Int32) : nar .char ((u &&& 255).toUInt32.toUInt16.toUInt32.toInt32) = u &&& 255 := by
  show ((u &&& 255).toUInt32.toUInt16.toUInt32.toInt32).toUInt32.toUInt16.toUInt32.toInt32 = u &&& 255
  rw [i2c_mask, i2c_mask]
theorem own_drb (u : Int32) : ¬ own_draw u < 0 ∧ ¬ (255 : Int32) < own_draw u := by
  unfold own_draw
  by_cases q1 : ((u.toUInt32 >>> ((8 : Int32) &&& 31).toUInt32).toInt32) &&& 3 = 0
  · rw [if_pos q1]; decide
  · rw [if_neg q1]
    by_cases q2 : ((u.toUInt32 >>> ((8 : Int32) &&& 31).toUInt32).toInt32) &&& 3 = 1
    · rw [if_pos q2]; decide
    · rw [if_neg q2]
      have h := c_mask u 255 8 (by decide) (by decide)
      have e : ((2 ^ 8 : Nat) : Int) = 256 := rfl
      have e0 : (0 : Int32).toInt = 0 := rfl
      have e1 : (255 : Int32).toInt = 255 := rfl
      rw [e] at h
      rw [Int32.lt_iff_toInt_lt, Int32.lt_iff_toInt_lt, e0, e1]
      omega
theorem own_char {c : Int32} (h : ¬ c < 0 ∧ ¬ (255 : Int32) < c) : nar .char c = c := by
  have e0 : (0 : Int32).toInt = 0 := rfl
  have e1 : (255 : Int32).toInt = 255 := rfl
  rw [Int32.lt_iff_toInt_lt, Int32.lt_iff_toInt_lt, e0, e1] at h
  have q := c_i2c c
  show c.toUInt32.toUInt16.toUInt32.toInt32 = c
  rw [← Int32.toInt_inj]; omega
theorem own_fit {c : Int32} (h : ¬ c < 0 ∧ ¬ (255 : Int32) < c) : fits .char (.int c) = true := by
  have q := fits_nar_char c
  rwa [own_char h] at q
def own_bl (u : Int32) : Int32 := if u = 32 then 1 else if u = 9 then 1 else 0
def own_f3 (c3 : Int32) : Int32 := if own_bl c3 = 0 then 4 else 3
def own_f2 (c2 c3 : Int32) : Int32 := if own_bl c2 = 0 then own_f3 c3 else 2
def own_f1 (c1 c2 c3 : Int32) : Int32 := if own_bl c1 = 0 then own_f2 c2 c3 else 1
def own_f0 (c0 c1 c2 c3 : Int32) : Int32 := if own_bl c0 = 0 then own_f1 c1 c2 c3 else 0
def own_e3 (f c3 : Int32) : Int32 := if 3 < f then 4 else if own_bl c3 = 0 then 4 else 3
def own_e2 (f c2 c3 : Int32) : Int32 := if 2 < f then own_e3 f c3 else if own_bl c2 = 0 then own_e3 f c3 else 2
def own_e1 (f c1 c2 c3 : Int32) : Int32 := if 1 < f then own_e2 f c2 c3 else if own_bl c1 = 0 then own_e2 f c2 c3 else 1
def own_e0 (f c0 c1 c2 c3 : Int32) : Int32 := if 0 < f then own_e1 f c1 c2 c3 else if own_bl c0 = 0 then own_e1 f c1 c2 c3 else 0
def own_ex (f c0 c1 c2 c3 : Int32) : Int32 := if f < 4 then own_e0 f c0 c1 c2 c3 else f
theorem own_x0 (c0 c1 c2 c3 : Int32) : own_ex 0 c0 c1 c2 c3 = own_f0 c0 c1 c2 c3 := by
  simp [own_ex, own_e0, own_e1, own_e2, own_e3, own_f0, own_f1, own_f2, own_f3]
theorem own_x1 (c0 c1 c2 c3 : Int32) : own_ex 1 c0 c1 c2 c3 = own_f1 c1 c2 c3 := by
  simp [own_ex, own_e0, own_e1, own_e2, own_e3, own_f0, own_f1, own_f2, own_f3]
theorem own_x2 (c0 c1 c2 c3 : Int32) : own_ex 2 c0 c1 c2 c3 = own_f2 c2 c3 := by
  simp [own_ex, own_e0, own_e1, own_e2, own_e3, own_f0, own_f1, own_f2, own_f3]
theorem own_x3 (c0 c1 c2 c3 : Int32) : own_ex 3 c0 c1 c2 c3 = own_f3 c3 := by
  simp [own_ex, own_e0, own_e1, own_e2, own_e3, own_f0, own_f1, own_f2, own_f3]
theorem own_x4 (c0 c1 c2 c3 : Int32) : own_ex 4 c0 c1 c2 c3 = 4 := by unfold own_ex; rw [if_neg (by decide)]
theorem own_x5 (c0 c1 c2 c3 : Int32) : own_ex 5 c0 c1 c2 c3 = 5 := by unfold own_ex; rw [if_neg (by decide)]
theorem own_six (x : Int32) : (x &&& 2147483647) % 6 = 0 ∨ (x &&& 2147483647) % 6 = 1 ∨ (x &&& 2147483647) % 6 = 2 ∨ (x &&& 2147483647) % 6 = 3 ∨ (x &&& 2147483647) % 6 = 4 ∨ (x &&& 2147483647) % 6 = 5 := by
  have h1 := c_mask x 2147483647 31 (by decide) (by decide)
  have h2 := c_irem (x &&& 2147483647) 6 6 rfl
  have hC : 0 ≤ (x &&& 2147483647).toInt := by rw [h1]; exact Int.emod_nonneg _ (by decide)
  have hB := h2.1 hC
  simp only [← Int32.toInt_inj, show (0 : Int32).toInt = 0 from rfl, show (1 : Int32).toInt = 1 from rfl, show (2 : Int32).toInt = 2 from rfl, show (3 : Int32).toInt = 3 from rfl, show (4 : Int32).toInt = 4 from rfl, show (5 : Int32).toInt = 5 from rfl]
  omega
theorem own_up (cs : List Int32) (h : ∀ c ∈ cs, ¬ c < 0 ∧ ¬ (255 : Int32) < c) : ∀ c ∈ cs, ¬ c < 0 ∧ ¬ (65535 : Int32) < c := fun c hc => ⟨(h c hc).1, fun q => (h c hc).2 (by rw [Int32.lt_iff_toInt_lt] at q ⊢; have e1 : (65535 : Int32).toInt = 65535 := rfl; have e2 : (255 : Int32).toInt = 255 := rfl; omega)⟩

theorem own_pn0 : plainName "com/example/datumbridge/datumbridge/cli/InputLinesFieldEndPinLaw" = true := by first | (simp [plainName, overriddenIn]; done) | decide +kernel
theorem own_ef1_I (m : MethodId) (x0 : Int32) : entryFrame m #[(.int x0)] 2 = mkF m 0 #[.val (.int x0), .unset] [] := by first | (simp [entryFrame, mkF, argsToLocals, Value.category]; done) | rfl
theorem d1_0 : decode method_2_code 0 = .ok (.iload_n 0, 1) := by decide +kernel
theorem d1_1 : decode method_2_code 1 = .ok (.bipush 8, 2) := by decide +kernel
theorem d1_3 : decode method_2_code 3 = .ok (.iushr, 1) := by decide +kernel
theorem d1_4 : decode method_2_code 4 = .ok (.iconst 3, 1) := by decide +kernel
theorem d1_5 : decode method_2_code 5 = .ok (.iand, 1) := by decide +kernel
theorem d1_6 : decode method_2_code 6 = .ok (.istore_n 1, 1) := by decide +kernel
theorem d1_7 : decode method_2_code 7 = .ok (.iload_n 1, 1) := by decide +kernel
theorem d1_8 : decode method_2_code 8 = .ok (.ifCond .ne 6, 3) := by decide +kernel
theorem d1_11 : decode method_2_code 11 = .ok (.bipush 32, 2) := by decide +kernel
theorem d1_13 : decode method_2_code 13 = .ok (.ireturn, 1) := by decide +kernel
theorem d1_14 : decode method_2_code 14 = .ok (.iload_n 1, 1) := by decide +kernel
theorem d1_15 : decode method_2_code 15 = .ok (.iconst 1, 1) := by decide +kernel
theorem d1_16 : decode method_2_code 16 = .ok (.if_icmp .ne 6, 3) := by decide +kernel
theorem d1_19 : decode method_2_code 19 = .ok (.bipush 9, 2) := by decide +kernel
theorem d1_21 : decode method_2_code 21 = .ok (.ireturn, 1) := by decide +kernel
theorem d1_22 : decode method_2_code 22 = .ok (.iload_n 0, 1) := by decide +kernel
theorem d1_23 : decode method_2_code 23 = .ok (.sipush 255, 3) := by decide +kernel
theorem d1_26 : decode method_2_code 26 = .ok (.iand, 1) := by decide +kernel
theorem d1_27 : decode method_2_code 27 = .ok (.i2c, 1) := by decide +kernel
theorem d1_28 : decode method_2_code 28 = .ok (.ireturn, 1) := by decide +kernel
theorem own_ef8_I (m : MethodId) (x0 : Int32) : entryFrame m #[(.int x0)] 1 = mkF m 0 #[.val (.int x0)] [] := by first | (simp [entryFrame, mkF, argsToLocals, Value.category]; done) | rfl
theorem d8_0 : decode method_3_code 0 = .ok (.iload_n 0, 1) := by decide +kernel
theorem d8_1 : decode method_3_code 1 = .ok (.bipush 32, 2) := by decide +kernel
theorem d8_3 : decode method_3_code 3 = .ok (.if_icmp .eq 9, 3) := by decide +kernel
theorem d8_12 : decode method_3_code 12 = .ok (.iconst 1, 1) := by decide +kernel
theorem d8_13 : decode method_3_code 13 = .ok (.goto 4, 3) := by decide +kernel
theorem d8_17 : decode method_3_code 17 = .ok (.ireturn, 1) := by decide +kernel
theorem d8_6 : decode method_3_code 6 = .ok (.iload_n 0, 1) := by decide +kernel
theorem d8_7 : decode method_3_code 7 = .ok (.bipush 9, 2) := by decide +kernel
theorem d8_9 : decode method_3_code 9 = .ok (.if_icmp .ne 7, 3) := by decide +kernel
theorem d8_16 : decode method_3_code 16 = .ok (.iconst 0, 1) := by decide +kernel
theorem own_pn1 : plainName "com/example/datumbridge/datumbridge/cli/InputLines" = true := by first | (simp [plainName, overriddenIn]; done) | decide +kernel
theorem own_ef17_I (m : MethodId) (x0 : Int32) : entryFrame m #[(.int x0)] 1 = mkF m 0 #[.val (.int x0)] [] := by first | (simp [entryFrame, mkF, argsToLocals, Value.category]; done) | rfl
theorem d17_0 : decode prog_9_method_6_code 0 = .ok (.iload_n 0, 1) := by decide +kernel
theorem d17_1 : decode prog_9_method_6_code 1 = .ok (.bipush 32, 2) := by decide +kernel
theorem d17_3 : decode prog_9_method_6_code 3 = .ok (.if_icmp .eq 9, 3) := by decide +kernel
theorem d17_12 : decode prog_9_method_6_code 12 = .ok (.iconst 1, 1) := by decide +kernel
theorem d17_13 : decode prog_9_method_6_code 13 = .ok (.goto 4, 3) := by decide +kernel
theorem d17_17 : decode prog_9_method_6_code 17 = .ok (.ireturn, 1) := by decide +kernel
theorem d17_6 : decode prog_9_method_6_code 6 = .ok (.iload_n 0, 1) := by decide +kernel
theorem d17_7 : decode prog_9_method_6_code 7 = .ok (.bipush 9, 2) := by decide +kernel
theorem d17_9 : decode prog_9_method_6_code 9 = .ok (.if_icmp .ne 7, 3) := by decide +kernel
theorem d17_16 : decode prog_9_method_6_code 16 = .ok (.iconst 0, 1) := by decide +kernel
theorem own_ef9_RI (m : MethodId) (x0 : Addr) (x1 : Int32) : entryFrame m #[(.ref x0), (.int x1)] 3 = mkF m 0 #[.val (.ref x0), .val (.int x1), .unset] [] := by first | (simp [entryFrame, mkF, argsToLocals, Value.category]; done) | rfl
theorem d9_0 : decode prog_9_method_5_code 0 = .ok (.iload_n 1, 1) := by decide +kernel
theorem d9_1 : decode prog_9_method_5_code 1 = .ok (.istore_n 2, 1) := by decide +kernel
theorem d9_2 : decode prog_9_method_5_code 2 = .ok (.iload_n 2, 1) := by decide +kernel
theorem d9_3 : decode prog_9_method_5_code 3 = .ok (.aload_n 0, 1) := by decide +kernel
theorem d9_4 : decode prog_9_method_5_code 4 = .ok (.invokevirtual 89, 3) := by decide +kernel
theorem own_pd0 : parseMethodDescriptor "()I" = some ⟨[], some .int⟩ := by decide +kernel
theorem d9_7 : decode prog_9_method_5_code 7 = .ok (.if_icmp .ge 20, 3) := by decide +kernel
theorem d9_10 : decode prog_9_method_5_code 10 = .ok (.aload_n 0, 1) := by decide +kernel
theorem d9_11 : decode prog_9_method_5_code 11 = .ok (.iload_n 2, 1) := by decide +kernel
theorem d9_12 : decode prog_9_method_5_code 12 = .ok (.invokevirtual 105, 3) := by decide +kernel
theorem own_pd1 : parseMethodDescriptor "(I)C" = some ⟨[.int], some .char⟩ := by decide +kernel
theorem d9_15 : decode prog_9_method_5_code 15 = .ok (.invokestatic 109, 3) := by decide +kernel
theorem own_pd2 : parseMethodDescriptor "(C)Z" = some ⟨[.char], some .boolean⟩ := by decide +kernel
theorem d9_18 : decode prog_9_method_5_code 18 = .ok (.ifCond .ne 9, 3) := by decide +kernel
theorem d9_21 : decode prog_9_method_5_code 21 = .ok (.iinc 2 1, 3) := by decide +kernel
theorem d9_24 : decode prog_9_method_5_code 24 = .ok (.goto (-22), 3) := by decide +kernel
theorem d9_27 : decode prog_9_method_5_code 27 = .ok (.iload_n 2, 1) := by decide +kernel
theorem d9_28 : decode prog_9_method_5_code 28 = .ok (.ireturn, 1) := by decide +kernel
theorem own_ef0_IIIII (m : MethodId) (x0 : Int32) (x1 : Int32) (x2 : Int32) (x3 : Int32) (x4 : Int32) : entryFrame m #[(.int x0), (.int x1), (.int x2), (.int x3), (.int x4)] maxLocals = mkF m 0 #[.val (.int x0), .val (.int x1), .val (.int x2), .val (.int x3), .val (.int x4), .unset, .unset, .unset, .unset, .unset] [] := by first | (simp [entryFrame, mkF, argsToLocals, Value.category, maxLocals]; done) | rfl
theorem own_pd3 : parseMethodDescriptor "([C)V" = some ⟨[(.array .char)], none⟩ := by decide +kernel
theorem own_pd4 : parseMethodDescriptor "(Ljava/lang/String;I)I" = some ⟨[(.object "java/lang/String"), .int], some .int⟩ := by decide +kernel
def Q_rm_draw (Z : State) (u : Int32) (h0 : Heap) (n0 : Nat) (v : Option Value) (h : Heap) (L : List Loc) : Prop := v = some (.int (own_draw u)) ∧ Fr n0 L ∧ h = h0
set_option maxRecDepth 65536 in
set_option maxHeartbeats 40000000 in
theorem rm_draw (l : Launch) (Z : State) (a0 : Array Value) (hw : ∀ d ∈ tables_1, d.before a0 Z = true) (ws : List Jvm.Cond) (u : Int32) (h0 : Heap) (n0 : Nat) (Z0 : n0 ≤ h0.size) :
    MetFree l (⟨"com/example/datumbridge/datumbridge/cli/InputLinesFieldEndPinLaw", "draw", "(I)C"⟩ : MethodName) (head1 (Jvm.Cond.code (⟨"com/example/datumbridge/datumbridge/cli/InputLinesFieldEndPinLaw", "draw", "(I)C"⟩ : MethodName) method_2_code 2 (some .char) :: ws) ({ frames := 0, cells := 0, slots := 0, locals := 0 } : Room)) (fun a U => a = #[(.int u)] ∧ Z.Warmed39 U.vm ∧ U.heap = h0) (fun _ _ _ _ _ => True) (fun _ U o U' => ∃ v L, o = .returned v ∧ Q_rm_draw Z u h0 n0 v U'.heap L ∧ FrameEnd U o U' L ({ frames := 0, cells := 0, slots := 0, locals := 0 } : Room).cells ({ frames := 0, cells := 0, slots := 0, locals := 0 } : Room).slots) := by
  refine MetFree.of_bodySF (plainFor_of_name own_pn0) hisR ?_
  intro p e s m args below meth c s₁ Bd hml0 hP hK
  obtain ⟨rfl, hZ, hh⟩ := hP
  have hx := Bd.exec
  have hby := Bd.bytes
  have hml : c.maxLocals = 2 := hml0
  have hown : s.vm.findClass "com/example/datumbridge/datumbridge/cli/InputLinesFieldEndPinLaw" = some m.cls := findClass_of_methodNamed Bd.named
  have hnm := (name_of_methodNamed Bd.named Bd.method).1
  have X0 : Stand p l e ({ frames := 0, cells := 0, slots := 0, locals := 0 } : Room) s m #[(.int u)] below meth c s₁ [] 0 0 := Stand.of_body Bd
  have e0 : s₁.heap = h0 := by rw [← hh, Bd.state]; rfl
  have N0 := Fr.nil n0
  have st0 : own_Go p e below (s₁.setTop (mkF m 0 #[.val (.int u), .unset] [])) (s₁.setTop (entryFrame m #[(.int u)] 2)) := fun t k => castTop (own_ef1_I m u) k
  have st1 : own_Go p e below (s₁.setTop (mkF m 8 #[.val (.int u), .val (.int (((u.toUInt32 >>> ((8 : Int32) &&& 31).toUInt32).toInt32) &&& (3 : Int32)))] [(.int (((u.toUInt32 >>> ((8 : Int32) &&& 31).toUInt32).toInt32) &&& (3 : Int32)))])) (s₁.setTop (entryFrame m #[(.int u)] 2)) := fun t kt => st0 t (by
    show Steps p.tables e below (s₁.setTop (mkF m 0 #[.val (.int u), .unset] [])) _
    refine XS.iloadN X0.here hx rfl (hb hby d1_0) rfl ?_
    show Steps p.tables e below (s₁.setTop (mkF m 1 #[.val (.int u), .unset] [(.int u)])) _
    refine XS.bipush X0.here hx rfl (hb hby d1_1) ?_
    show Steps p.tables e below (s₁.setTop (mkF m 3 #[.val (.int u), .unset] [(.int (8 : Int32)), (.int u)])) _
    refine XS.iushr X0.here hx rfl (hb hby d1_3) rfl ?_
    show Steps p.tables e below (s₁.setTop (mkF m 4 #[.val (.int u), .unset] [(.int ((u.toUInt32 >>> ((8 : Int32) &&& 31).toUInt32).toInt32))])) _
    refine XS.iconst X0.here hx rfl (hb hby d1_4) ?_
    show Steps p.tables e below (s₁.setTop (mkF m 5 #[.val (.int u), .unset] [(.int (3 : Int32)), (.int ((u.toUInt32 >>> ((8 : Int32) &&& 31).toUInt32).toInt32))])) _
    refine XS.iand X0.here hx rfl (hb hby d1_5) rfl ?_
    show Steps p.tables e below (s₁.setTop (mkF m 6 #[.val (.int u), .unset] [(.int (((u.toUInt32 >>> ((8 : Int32) &&& 31).toUInt32).toInt32) &&& (3 : Int32)))])) _
    refine XS.istoreN X0.here hx rfl (hb hby d1_6) rfl (l' := #[.val (.int u), .val (.int (((u.toUInt32 >>> ((8 : Int32) &&& 31).toUInt32).toInt32) &&& (3 : Int32)))]) rfl ?_
    show Steps p.tables e below (s₁.setTop (mkF m 7 #[.val (.int u), .val (.int (((u.toUInt32 >>> ((8 : Int32) &&& 31).toUInt32).toInt32) &&& (3 : Int32)))] [])) _
    refine XS.iloadN X0.here hx rfl (hb hby d1_7) rfl ?_
    show Steps p.tables e below (s₁.setTop (mkF m 8 #[.val (.int u), .val (.int (((u.toUInt32 >>> ((8 : Int32) &&& 31).toUInt32).toInt32) &&& (3 : Int32)))] [(.int (((u.toUInt32 >>> ((8 : Int32) &&& 31).toUInt32).toInt32) &&& (3 : Int32)))])) _
    exact kt)
  by_cases q1 : (((u.toUInt32 >>> ((8 : Int32) &&& 31).toUInt32).toInt32) &&& (3 : Int32)) = (0 : Int32)
  · have st2 : own_Go p e below (s₁.setTop (mkF m 13 #[.val (.int u), .val (.int (((u.toUInt32 >>> ((8 : Int32) &&& 31).toUInt32).toInt32) &&& (3 : Int32)))] [(.int (32 : Int32))])) (s₁.setTop (entryFrame m #[(.int u)] 2)) := fun t kt => st1 t (by
      show Steps p.tables e below (s₁.setTop (mkF m 8 #[.val (.int u), .val (.int (((u.toUInt32 >>> ((8 : Int32) &&& 31).toUInt32).toInt32) &&& (3 : Int32)))] [(.int (((u.toUInt32 >>> ((8 : Int32) &&& 31).toUInt32).toInt32) &&& (3 : Int32)))])) _
      refine XS.ifNo X0.here hx rfl (hb hby d1_8) rfl ((if0 _ _).trans (teq q1).2) ?_
      show Steps p.tables e below (s₁.setTop (mkF m 11 #[.val (.int u), .val (.int (((u.toUInt32 >>> ((8 : Int32) &&& 31).toUInt32).toInt32) &&& (3 : Int32)))] [])) _
      refine XS.bipush X0.here hx rfl (hb hby d1_11) ?_
      show Steps p.tables e below (s₁.setTop (mkF m 13 #[.val (.int u), .val (.int (((u.toUInt32 >>> ((8 : Int32) &&& 31).toUInt32).toInt32) &&& (3 : Int32)))] [(.int (32 : Int32))])) _
      exact kt)
    obtain ⟨fs, hr, hrun, hended, hW, hsame⟩ := X0.leave (v := (some (.int (nar .char (32 : Int32))))) (fun h => by rw [Bd.returns] at h; cases h)
    refine ⟨_, _, st2 _ ?_, hrun, hended, _, _, rfl, ?_, ⟨_, rfl⟩, hW, hsame.mono (by decide) (by decide)⟩
    · exact retN X0 hx (t := .char) Bd.returns (by simp) (hb hby d1_13) hr
    · show Q_rm_draw Z u h0 n0 _ s₁.heap _
      rw [e0]
      exact ⟨by unfold own_draw; rw [if_pos q1] <;> rfl, N0, rfl⟩
  · have st3 : own_Go p e below (s₁.setTop (mkF m 16 #[.val (.int u), .val (.int (((u.toUInt32 >>> ((8 : Int32) &&& 31).toUInt32).toInt32) &&& (3 : Int32)))] [(.int (1 : Int32)), (.int (((u.toUInt32 >>> ((8 : Int32) &&& 31).toUInt32).toInt32) &&& (3 : Int32)))])) (s₁.setTop (entryFrame m #[(.int u)] 2)) := fun t kt => st1 t (by
      show Steps p.tables e below (s₁.setTop (mkF m 8 #[.val (.int u), .val (.int (((u.toUInt32 >>> ((8 : Int32) &&& 31).toUInt32).toInt32) &&& (3 : Int32)))] [(.int (((u.toUInt32 >>> ((8 : Int32) &&& 31).toUInt32).toInt32) &&& (3 : Int32)))])) _
      refine XS.ifYes X0.here hx rfl (pc0 := 8) (pc' := 14) rfl (hb hby d1_8) rfl ((if0 _ _).trans (feq q1).2) (by decide) (by decide) ?_
      show Steps p.tables e below (s₁.setTop (mkF m 14 #[.val (.int u), .val (.int (((u.toUInt32 >>> ((8 : Int32) &&& 31).toUInt32).toInt32) &&& (3 : Int32)))] [])) _
      refine XS.iloadN X0.here hx rfl (hb hby d1_14) rfl ?_
      show Steps p.tables e below (s₁.setTop (mkF m 15 #[.val (.int u), .val (.int (((u.toUInt32 >>> ((8 : Int32) &&& 31).toUInt32).toInt32) &&& (3 : Int32)))] [(.int (((u.toUInt32 >>> ((8 : Int32) &&& 31).toUInt32).toInt32) &&& (3 : Int32)))])) _
      refine XS.iconst X0.here hx rfl (hb hby d1_15) ?_
      show Steps p.tables e below (s₁.setTop (mkF m 16 #[.val (.int u), .val (.int (((u.toUInt32 >>> ((8 : Int32) &&& 31).toUInt32).toInt32) &&& (3 : Int32)))] [(.int (1 : Int32)), (.int (((u.toUInt32 >>> ((8 : Int32) &&& 31).toUInt32).toInt32) &&& (3 : Int32)))])) _
      exact kt)
    by_cases q2 : (((u.toUInt32 >>> ((8 : Int32) &&& 31).toUInt32).toInt32) &&& (3 : Int32)) = (1 : Int32)
    · have st4 : own_Go p e below (s₁.setTop (mkF m 21 #[.val (.int u), .val (.int (((u.toUInt32 >>> ((8 : Int32) &&& 31).toUInt32).toInt32) &&& (3 : Int32)))] [(.int (9 : Int32))])) (s₁.setTop (entryFrame m #[(.int u)] 2)) := fun t kt => st3 t (by
        show Steps p.tables e below (s₁.setTop (mkF m 16 #[.val (.int u), .val (.int (((u.toUInt32 >>> ((8 : Int32) &&& 31).toUInt32).toInt32) &&& (3 : Int32)))] [(.int (1 : Int32)), (.int (((u.toUInt32 >>> ((8 : Int32) &&& 31).toUInt32).toInt32) &&& (3 : Int32)))])) _
        refine XS.icmpNo X0.here hx rfl (hb hby d1_16) rfl (teq q2).2 ?_
        show Steps p.tables e below (s₁.setTop (mkF m 19 #[.val (.int u), .val (.int (((u.toUInt32 >>> ((8 : Int32) &&& 31).toUInt32).toInt32) &&& (3 : Int32)))] [])) _
        refine XS.bipush X0.here hx rfl (hb hby d1_19) ?_
        show Steps p.tables e below (s₁.setTop (mkF m 21 #[.val (.int u), .val (.int (((u.toUInt32 >>> ((8 : Int32) &&& 31).toUInt32).toInt32) &&& (3 : Int32)))] [(.int (9 : Int32))])) _
        exact kt)
      obtain ⟨fs, hr, hrun, hended, hW, hsame⟩ := X0.leave (v := (some (.int (nar .char (9 : Int32))))) (fun h => by rw [Bd.returns] at h; cases h)
      refine ⟨_, _, st4 _ ?_, hrun, hended, _, _, rfl, ?_, ⟨_, rfl⟩, hW, hsame.mono (by decide) (by decide)⟩
      · exact retN X0 hx (t := .char) Bd.returns (by simp) (hb hby d1_21) hr
      · show Q_rm_draw Z u h0 n0 _ s₁.heap _
        rw [e0]
        exact ⟨by unfold own_draw; rw [if_neg q1, if_pos q2] <;> rfl, N0, rfl⟩
    · have st5 : own_Go p e below (s₁.setTop (mkF m 28 #[.val (.int u), .val (.int (((u.toUInt32 >>> ((8 : Int32) &&& 31).toUInt32).toInt32) &&& (3 : Int32)))] [(.int ((u &&& (255 : Int32)).toUInt32.toUInt16.toUInt32.toInt32))])) (s₁.setTop (entryFrame m #[(.int u)] 2)) := fun t kt => st3 t (by
        show Steps p.tables e below (s₁.setTop (mkF m 16 #[.val (.int u), .val (.int (((u.toUInt32 >>> ((8 : Int32) &&& 31).toUInt32).toInt32) &&& (3 : Int32)))] [(.int (1 : Int32)), (.int (((u.toUInt32 >>> ((8 : Int32) &&& 31).toUInt32).toInt32) &&& (3 : Int32)))])) _
        refine XS.icmpYes X0.here hx rfl (pc0 := 16) (pc' := 22) rfl (hb hby d1_16) rfl (feq q2).2 (by decide) (by decide) ?_
        show Steps p.tables e below (s₁.setTop (mkF m 22 #[.val (.int u), .val (.int (((u.toUInt32 >>> ((8 : Int32) &&& 31).toUInt32).toInt32) &&& (3 : Int32)))] [])) _
        refine XS.iloadN X0.here hx rfl (hb hby d1_22) rfl ?_
        show Steps p.tables e below (s₁.setTop (mkF m 23 #[.val (.int u), .val (.int (((u.toUInt32 >>> ((8 : Int32) &&& 31).toUInt32).toInt32) &&& (3 : Int32)))] [(.int u)])) _
        refine XS.sipush X0.here hx rfl (hb hby d1_23) ?_
        show Steps p.tables e below (s₁.setTop (mkF m 26 #[.val (.int u), .val (.int (((u.toUInt32 >>> ((8 : Int32) &&& 31).toUInt32).toInt32) &&& (3 : Int32)))] [(.int (255 : Int32)), (.int u)])) _
        refine XS.iand X0.here hx rfl (hb hby d1_26) rfl ?_
        show Steps p.tables e below (s₁.setTop (mkF m 27 #[.val (.int u), .val (.int (((u.toUInt32 >>> ((8 : Int32) &&& 31).toUInt32).toInt32) &&& (3 : Int32)))] [(.int (u &&& (255 : Int32)))])) _
        refine XS.i2c X0.here hx rfl (hb hby d1_27) rfl ?_
        show Steps p.tables e below (s₁.setTop (mkF m 28 #[.val (.int u), .val (.int (((u.toUInt32 >>> ((8 : Int32) &&& 31).toUInt32).toInt32) &&& (3 : Int32)))] [(.int ((u &&& (255 : Int32)).toUInt32.toUInt16.toUInt32.toInt32))])) _
        exact kt)
      obtain ⟨fs, hr, hrun, hended, hW, hsame⟩ := X0.leave (v := (some (.int (nar .char ((u &&& (255 : Int32)).toUInt32.toUInt16.toUInt32.toInt32))))) (fun h => by rw [Bd.returns] at h; cases h)
      refine ⟨_, _, st5 _ ?_, hrun, hended, _, _, rfl, ?_, ⟨_, rfl⟩, hW, hsame.mono (by decide) (by decide)⟩
      · exact retN X0 hx (t := .char) Bd.returns (by simp) (hb hby d1_28) hr
      · show Q_rm_draw Z u h0 n0 _ s₁.heap _
        rw [e0]
        exact ⟨by unfold own_draw; rw [if_neg q1, if_neg q2, own_i2c], N0, rfl⟩
def Q_rm_blank (Z : State) (u : Int32) (h0 : Heap) (n0 : Nat) (v : Option Value) (h : Heap) (L : List Loc) : Prop := v = some (.int (own_bl u)) ∧ Fr n0 L ∧ h = h0
set_option maxRecDepth 65536 in
set_option maxHeartbeats 40000000 in
theorem rm_blank (l : Launch) (Z : State) (a0 : Array Value) (hw : ∀ d ∈ tables_1, d.before a0 Z = true) (ws : List Jvm.Cond) (u : Int32) (h0 : Heap) (n0 : Nat) (Z0 : n0 ≤ h0.size) :
    MetFree l (⟨"com/example/datumbridge/datumbridge/cli/InputLinesFieldEndPinLaw", "blank", "(C)Z"⟩ : MethodName) (head1 (Jvm.Cond.code (⟨"com/example/datumbridge/datumbridge/cli/InputLinesFieldEndPinLaw", "blank", "(C)Z"⟩ : MethodName) method_3_code 1 (some .boolean) :: ws) ({ frames := 0, cells := 0, slots := 0, locals := 0 } : Room)) (fun a U => a = #[(.int u)] ∧ Z.Warmed39 U.vm ∧ U.heap = h0) (fun _ _ _ _ _ => True) (fun _ U o U' => ∃ v L, o = .returned v ∧ Q_rm_blank Z u h0 n0 v U'.heap L ∧ FrameEnd U o U' L ({ frames := 0, cells := 0, slots := 0, locals := 0 } : Room).cells ({ frames := 0, cells := 0, slots := 0, locals := 0 } : Room).slots) := by
  refine MetFree.of_bodySF (plainFor_of_name own_pn0) hisR ?_
  intro p e s m args below meth c s₁ Bd hml0 hP hK
  obtain ⟨rfl, hZ, hh⟩ := hP
  have hx := Bd.exec
  have hby := Bd.bytes
  have hml : c.maxLocals = 1 := hml0
  have hown : s.vm.findClass "com/example/datumbridge/datumbridge/cli/InputLinesFieldEndPinLaw" = some m.cls := findClass_of_methodNamed Bd.named
  have hnm := (name_of_methodNamed Bd.named Bd.method).1
  have X0 : Stand p l e ({ frames := 0, cells := 0, slots := 0, locals := 0 } : Room) s m #[(.int u)] below meth c s₁ [] 0 0 := Stand.of_body Bd
  have e0 : s₁.heap = h0 := by rw [← hh, Bd.state]; rfl
  have N0 := Fr.nil n0
  have st0 : own_Go p e below (s₁.setTop (mkF m 0 #[.val (.int u)] [])) (s₁.setTop (entryFrame m #[(.int u)] 1)) := fun t k => castTop (own_ef8_I m u) k
  have st1 : own_Go p e below (s₁.setTop (mkF m 3 #[.val (.int u)] [(.int (32 : Int32)), (.int u)])) (s₁.setTop (entryFrame m #[(.int u)] 1)) := fun t kt => st0 t (by
    show Steps p.tables e below (s₁.setTop (mkF m 0 #[.val (.int u)] [])) _
    refine XS.iloadN X0.here hx rfl (hb hby d8_0) rfl ?_
    show Steps p.tables e below (s₁.setTop (mkF m 1 #[.val (.int u)] [(.int u)])) _
    refine XS.bipush X0.here hx rfl (hb hby d8_1) ?_
    show Steps p.tables e below (s₁.setTop (mkF m 3 #[.val (.int u)] [(.int (32 : Int32)), (.int u)])) _
    exact kt)
  by_cases q1 : u = (32 : Int32)
  · have st2 : own_Go p e below (s₁.setTop (mkF m 17 #[.val (.int u)] [(.int (1 : Int32))])) (s₁.setTop (entryFrame m #[(.int u)] 1)) := fun t kt => st1 t (by
      show Steps p.tables e below (s₁.setTop (mkF m 3 #[.val (.int u)] [(.int (32 : Int32)), (.int u)])) _
      refine XS.icmpYes X0.here hx rfl (pc0 := 3) (pc' := 12) rfl (hb hby d8_3) rfl (teq q1).1 (by decide) (by decide) ?_
      show Steps p.tables e below (s₁.setTop (mkF m 12 #[.val (.int u)] [])) _
      refine XS.iconst X0.here hx rfl (hb hby d8_12) ?_
      show Steps p.tables e below (s₁.setTop (mkF m 13 #[.val (.int u)] [(.int (1 : Int32))])) _
      refine XS.goto X0.here hx rfl (pc0 := 13) (pc' := 17) rfl (hb hby d8_13) (by decide) (by decide) ?_
      show Steps p.tables e below (s₁.setTop (mkF m 17 #[.val (.int u)] [(.int (1 : Int32))])) _
      exact kt)
    obtain ⟨fs, hr, hrun, hended, hW, hsame⟩ := X0.leave (v := (some (.int (1 : Int32)))) (fun h => by rw [Bd.returns] at h; cases h)
    refine ⟨_, _, st2 _ ?_, hrun, hended, _, _, rfl, ?_, ⟨_, rfl⟩, hW, hsame.mono (by decide) (by decide)⟩
    · exact retN X0 hx (t := .boolean) Bd.returns (by simp) (hb hby d8_17) hr
    · show Q_rm_blank Z u h0 n0 _ s₁.heap _
      rw [e0]
      exact ⟨by unfold own_bl; rw [if_pos q1] <;> rfl, N0, rfl⟩
  · have st3 : own_Go p e below (s₁.setTop (mkF m 9 #[.val (.int u)] [(.int (9 : Int32)), (.int u)])) (s₁.setTop (entryFrame m #[(.int u)] 1)) := fun t kt => st1 t (by
      show Steps p.tables e below (s₁.setTop (mkF m 3 #[.val (.int u)] [(.int (32 : Int32)), (.int u)])) _
      refine XS.icmpNo X0.here hx rfl (hb hby d8_3) rfl (feq q1).1 ?_
      show Steps p.tables e below (s₁.setTop (mkF m 6 #[.val (.int u)] [])) _
      refine XS.iloadN X0.here hx rfl (hb hby d8_6) rfl ?_
      show Steps p.tables e below (s₁.setTop (mkF m 7 #[.val (.int u)] [(.int u)])) _
      refine XS.bipush X0.here hx rfl (hb hby d8_7) ?_
      show Steps p.tables e below (s₁.setTop (mkF m 9 #[.val (.int u)] [(.int (9 : Int32)), (.int u)])) _
      exact kt)
    by_cases q2 : u = (9 : Int32)
    · have st4 : own_Go p e below (s₁.setTop (mkF m 17 #[.val (.int u)] [(.int (1 : Int32))])) (s₁.setTop (entryFrame m #[(.int u)] 1)) := fun t kt => st3 t (by
        show Steps p.tables e below (s₁.setTop (mkF m 9 #[.val (.int u)] [(.int (9 : Int32)), (.int u)])) _
        refine XS.icmpNo X0.here hx rfl (hb hby d8_9) rfl (teq q2).2 ?_
        show Steps p.tables e below (s₁.setTop (mkF m 12 #[.val (.int u)] [])) _
        refine XS.iconst X0.here hx rfl (hb hby d8_12) ?_
        show Steps p.tables e below (s₁.setTop (mkF m 13 #[.val (.int u)] [(.int (1 : Int32))])) _
        refine XS.goto X0.here hx rfl (pc0 := 13) (pc' := 17) rfl (hb hby d8_13) (by decide) (by decide) ?_
        show Steps p.tables e below (s₁.setTop (mkF m 17 #[.val (.int u)] [(.int (1 : Int32))])) _
        exact kt)
      obtain ⟨fs, hr, hrun, hended, hW, hsame⟩ := X0.leave (v := (some (.int (1 : Int32)))) (fun h => by rw [Bd.returns] at h; cases h)
      refine ⟨_, _, st4 _ ?_, hrun, hended, _, _, rfl, ?_, ⟨_, rfl⟩, hW, hsame.mono (by decide) (by decide)⟩
      · exact retN X0 hx (t := .boolean) Bd.returns (by simp) (hb hby d8_17) hr
      · show Q_rm_blank Z u h0 n0 _ s₁.heap _
        rw [e0]
        exact ⟨by unfold own_bl; rw [if_neg q1, if_pos q2] <;> rfl, N0, rfl⟩
    · have st5 : own_Go p e below (s₁.setTop (mkF m 17 #[.val (.int u)] [(.int (0 : Int32))])) (s₁.setTop (entryFrame m #[(.int u)] 1)) := fun t kt => st3 t (by
        show Steps p.tables e below (s₁.setTop (mkF m 9 #[.val (.int u)] [(.int (9 : Int32)), (.int u)])) _
        refine XS.icmpYes X0.here hx rfl (pc0 := 9) (pc' := 16) rfl (hb hby d8_9) rfl (feq q2).2 (by decide) (by decide) ?_
        show Steps p.tables e below (s₁.setTop (mkF m 16 #[.val (.int u)] [])) _
        refine XS.iconst X0.here hx rfl (hb hby d8_16) ?_
        show Steps p.tables e below (s₁.setTop (mkF m 17 #[.val (.int u)] [(.int (0 : Int32))])) _
        exact kt)
      obtain ⟨fs, hr, hrun, hended, hW, hsame⟩ := X0.leave (v := (some (.int (0 : Int32)))) (fun h => by rw [Bd.returns] at h; cases h)
      refine ⟨_, _, st5 _ ?_, hrun, hended, _, _, rfl, ?_, ⟨_, rfl⟩, hW, hsame.mono (by decide) (by decide)⟩
      · exact retN X0 hx (t := .boolean) Bd.returns (by simp) (hb hby d8_17) hr
      · show Q_rm_blank Z u h0 n0 _ s₁.heap _
        rw [e0]
        exact ⟨by unfold own_bl; rw [if_neg q1, if_neg q2] <;> rfl, N0, rfl⟩
def Q_rm_isBlank (Z : State) (u : Int32) (h0 : Heap) (n0 : Nat) (v : Option Value) (h : Heap) (L : List Loc) : Prop := v = some (.int (own_bl u)) ∧ Fr n0 L ∧ h = h0
set_option maxRecDepth 65536 in
set_option maxHeartbeats 40000000 in
theorem rm_isBlank (l : Launch) (Z : State) (a0 : Array Value) (hw : ∀ d ∈ tables_1, d.before a0 Z = true) (ws : List Jvm.Cond) (u : Int32) (h0 : Heap) (n0 : Nat) (Z0 : n0 ≤ h0.size) :
    MetFree l (⟨"com/example/datumbridge/datumbridge/cli/InputLines", "isBlank", "(C)Z"⟩ : MethodName) (head1 (Jvm.Cond.code (⟨"com/example/datumbridge/datumbridge/cli/InputLines", "isBlank", "(C)Z"⟩ : MethodName) prog_9_method_6_code 1 (some .boolean) :: ws) ({ frames := 0, cells := 0, slots := 0, locals := 0 } : Room)) (fun a U => a = #[(.int u)] ∧ Z.Warmed39 U.vm ∧ U.heap = h0) (fun _ _ _ _ _ => True) (fun _ U o U' => ∃ v L, o = .returned v ∧ Q_rm_isBlank Z u h0 n0 v U'.heap L ∧ FrameEnd U o U' L ({ frames := 0, cells := 0, slots := 0, locals := 0 } : Room).cells ({ frames := 0, cells := 0, slots := 0, locals := 0 } : Room).slots) := by
  refine MetFree.of_bodySF (plainFor_of_name own_pn1) hisR ?_
  intro p e s m args below meth c s₁ Bd hml0 hP hK
  obtain ⟨rfl, hZ, hh⟩ := hP
  have hx := Bd.exec
  have hby := Bd.bytes
  have hml : c.maxLocals = 1 := hml0
  have hown : s.vm.findClass "com/example/datumbridge/datumbridge/cli/InputLines" = some m.cls := findClass_of_methodNamed Bd.named
  have hnm := (name_of_methodNamed Bd.named Bd.method).1
  have X0 : Stand p l e ({ frames := 0, cells := 0, slots := 0, locals := 0 } : Room) s m #[(.int u)] below meth c s₁ [] 0 0 := Stand.of_body Bd
  have e0 : s₁.heap = h0 := by rw [← hh, Bd.state]; rfl
  have N0 := Fr.nil n0
  have st0 : own_Go p e below (s₁.setTop (mkF m 0 #[.val (.int u)] [])) (s₁.setTop (entryFrame m #[(.int u)] 1)) := fun t k => castTop (own_ef17_I m u) k
  have st1 : own_Go p e below (s₁.setTop (mkF m 3 #[.val (.int u)] [(.int (32 : Int32)), (.int u)])) (s₁.setTop (entryFrame m #[(.int u)] 1)) := fun t kt => st0 t (by
    show Steps p.tables e below (s₁.setTop (mkF m 0 #[.val (.int u)] [])) _
    refine XS.iloadN X0.here hx rfl (hb hby d17_0) rfl ?_
    show Steps p.tables e below (s₁.setTop (mkF m 1 #[.val (.int u)] [(.int u)])) _
    refine XS.bipush X0.here hx rfl (hb hby d17_1) ?_
    show Steps p.tables e below (s₁.setTop (mkF m 3 #[.val (.int u)] [(.int (32 : Int32)), (.int u)])) _
    exact kt)
  by_cases q1 : u = (32 : Int32)
  · have st2 : own_Go p e below (s₁.setTop (mkF m 17 #[.val (.int u)] [(.int (1 : Int32))])) (s₁.setTop (entryFrame m #[(.int u)] 1)) := fun t kt => st1 t (by
      show Steps p.tables e below (s₁.setTop (mkF m 3 #[.val (.int u)] [(.int (32 : Int32)), (.int u)])) _
      refine XS.icmpYes X0.here hx rfl (pc0 := 3) (pc' := 12) rfl (hb hby d17_3) rfl (teq q1).1 (by decide) (by decide) ?_
      show Steps p.tables e below (s₁.setTop (mkF m 12 #[.val (.int u)] [])) _
      refine XS.iconst X0.here hx rfl (hb hby d17_12) ?_
      show Steps p.tables e below (s₁.setTop (mkF m 13 #[.val (.int u)] [(.int (1 : Int32))])) _
      refine XS.goto X0.here hx rfl (pc0 := 13) (pc' := 17) rfl (hb hby d17_13) (by decide) (by decide) ?_
      show Steps p.tables e below (s₁.setTop (mkF m 17 #[.val (.int u)] [(.int (1 : Int32))])) _
      exact kt)
    obtain ⟨fs, hr, hrun, hended, hW, hsame⟩ := X0.leave (v := (some (.int (1 : Int32)))) (fun h => by rw [Bd.returns] at h; cases h)
    refine ⟨_, _, st2 _ ?_, hrun, hended, _, _, rfl, ?_, ⟨_, rfl⟩, hW, hsame.mono (by decide) (by decide)⟩
    · exact retN X0 hx (t := .boolean) Bd.returns (by simp) (hb hby d17_17) hr
    · show Q_rm_isBlank Z u h0 n0 _ s₁.heap _
      rw [e0]
      exact ⟨by unfold own_bl; rw [if_pos q1] <;> rfl, N0, rfl⟩
  · have st3 : own_Go p e below (s₁.setTop (mkF m 9 #[.val (.int u)] [(.int (9 : Int32)), (.int u)])) (s₁.setTop (entryFrame m #[(.int u)] 1)) := fun t kt => st1 t (by
      show Steps p.tables e below (s₁.setTop (mkF m 3 #[.val (.int u)] [(.int (32 : Int32)), (.int u)])) _
      refine XS.icmpNo X0.here hx rfl (hb hby d17_3) rfl (feq q1).1 ?_
      show Steps p.tables e below (s₁.setTop (mkF m 6 #[.val (.int u)] [])) _
      refine XS.iloadN X0.here hx rfl (hb hby d17_6) rfl ?_
      show Steps p.tables e below (s₁.setTop (mkF m 7 #[.val (.int u)] [(.int u)])) _
      refine XS.bipush X0.here hx rfl (hb hby d17_7) ?_
      show Steps p.tables e below (s₁.setTop (mkF m 9 #[.val (.int u)] [(.int (9 : Int32)), (.int u)])) _
      exact kt)
    by_cases q2 : u = (9 : Int32)
    · have st4 : own_Go p e below (s₁.setTop (mkF m 17 #[.val (.int u)] [(.int (1 : Int32))])) (s₁.setTop (entryFrame m #[(.int u)] 1)) := fun t kt => st3 t (by
        show Steps p.tables e below (s₁.setTop (mkF m 9 #[.val (.int u)] [(.int (9 : Int32)), (.int u)])) _
        refine XS.icmpNo X0.here hx rfl (hb hby d17_9) rfl (teq q2).2 ?_
        show Steps p.tables e below (s₁.setTop (mkF m 12 #[.val (.int u)] [])) _
        refine XS.iconst X0.here hx rfl (hb hby d17_12) ?_
        show Steps p.tables e below (s₁.setTop (mkF m 13 #[.val (.int u)] [(.int (1 : Int32))])) _
        refine XS.goto X0.here hx rfl (pc0 := 13) (pc' := 17) rfl (hb hby d17_13) (by decide) (by decide) ?_
        show Steps p.tables e below (s₁.setTop (mkF m 17 #[.val (.int u)] [(.int (1 : Int32))])) _
        exact kt)
      obtain ⟨fs, hr, hrun, hended, hW, hsame⟩ := X0.leave (v := (some (.int (1 : Int32)))) (fun h => by rw [Bd.returns] at h; cases h)
      refine ⟨_, _, st4 _ ?_, hrun, hended, _, _, rfl, ?_, ⟨_, rfl⟩, hW, hsame.mono (by decide) (by decide)⟩
      · exact retN X0 hx (t := .boolean) Bd.returns (by simp) (hb hby d17_17) hr
      · show Q_rm_isBlank Z u h0 n0 _ s₁.heap _
        rw [e0]
        exact ⟨by unfold own_bl; rw [if_neg q1, if_pos q2] <;> rfl, N0, rfl⟩
    · have st5 : own_Go p e below (s₁.setTop (mkF m 17 #[.val (.int u)] [(.int (0 : Int32))])) (s₁.setTop (entryFrame m #[(.int u)] 1)) := fun t kt => st3 t (by
        show Steps p.tables e below (s₁.setTop (mkF m 9 #[.val (.int u)] [(.int (9 : Int32)), (.int u)])) _
        refine XS.icmpYes X0.here hx rfl (pc0 := 9) (pc' := 16) rfl (hb hby d17_9) rfl (feq q2).2 (by decide) (by decide) ?_
        show Steps p.tables e below (s₁.setTop (mkF m 16 #[.val (.int u)] [])) _
        refine XS.iconst X0.here hx rfl (hb hby d17_16) ?_
        show Steps p.tables e below (s₁.setTop (mkF m 17 #[.val (.int u)] [(.int (0 : Int32))])) _
        exact kt)
      obtain ⟨fs, hr, hrun, hended, hW, hsame⟩ := X0.leave (v := (some (.int (0 : Int32)))) (fun h => by rw [Bd.returns] at h; cases h)
      refine ⟨_, _, st5 _ ?_, hrun, hended, _, _, rfl, ?_, ⟨_, rfl⟩, hW, hsame.mono (by decide) (by decide)⟩
      · exact retN X0 hx (t := .boolean) Bd.returns (by simp) (hb hby d17_17) hr
      · show Q_rm_isBlank Z u h0 n0 _ s₁.heap _
        rw [e0]
        exact ⟨by unfold own_bl; rw [if_neg q1, if_neg q2] <;> rfl, N0, rfl⟩
def Q_rm_fe0 (Z : State) (asx : Addr) (at1 : Addr) (kb : ClassId) (ch0 : Int32) (ch1 : Int32) (ch2 : Int32) (ch3 : Int32) (gz : Int32) (gf : Value) (h0 : Heap) (n0 : Nat) (v : Option Value) (h : Heap) (L : List Loc) : Prop := v = some (.int (own_f0 ch0 ch1 ch2 ch3)) ∧ Fr n0 L ∧ h = h0
set_option maxRecDepth 65536 in
set_option maxHeartbeats 40000000 in
theorem rm_fe0 (l : Launch) (Z : State) (a0 : Array Value) (hw : ∀ d ∈ tables_1, d.before a0 Z = true) (ws : List Jvm.Cond) (asx : Addr) (at1 : Addr) (kb : ClassId) (ch0 : Int32) (ch1 : Int32) (ch2 : Int32) (ch3 : Int32) (gz : Int32) (gf : Value) (h0 : Heap) (n0 : Nat) (Z0 : n0 ≤ h0.size) (E_as : Exa Z h0 asx "java/lang/String") (F_va : Fld Z h0 asx "java/lang/String" "value" "[B" (.ref at1)) (F_co : Fld Z h0 asx "java/lang/String" "coder" "B" (.int 0)) (V_at : Arv Z h0 at1 kb .byte (Int32.ofNat 4) ((([ch0, ch1, ch2, ch3] : List Int32).map (fun c => c.toInt8.toInt32)).map Value.int) (.int 0)) (hp : ∀ c ∈ ([ch0, ch1, ch2, ch3] : List Int32), ¬ c < 0 ∧ ¬ (255 : Int32) < c) (O2 : Sta Z Z.heap "java/lang/String" "COMPACT_STRINGS" "Z" (.int gz)) (P5 : ¬ gz = 0) (O4 : Sta Z Z.heap "jdk/internal/util/Preconditions" "SIOOBE_FORMATTER" "Ljava/util/function/BiFunction;" gf) (rG : gf.isRef = true) (X00 : Old Z n0 h0) :
    MetFree l (⟨"com/example/datumbridge/datumbridge/cli/InputLines", "fieldEnd", "(Ljava/lang/String;I)I"⟩ : MethodName) (head1 (Jvm.Cond.code (⟨"com/example/datumbridge/datumbridge/cli/InputLines", "fieldEnd", "(Ljava/lang/String;I)I"⟩ : MethodName) prog_9_method_5_code 3 (some .int) :: ws) ({ frames := 4, cells := 0, slots := 0, locals := 53 } : Room)) (fun a U => a = #[(.ref asx), (.int (0 : Int32))] ∧ Z.Warmed39 U.vm ∧ U.heap = h0) (fun _ _ _ _ _ => True) (fun _ U o U' => ∃ v L, o = .returned v ∧ Q_rm_fe0 Z asx at1 kb ch0 ch1 ch2 ch3 gz gf h0 n0 v U'.heap L ∧ FrameEnd U o U' L ({ frames := 4, cells := 0, slots := 0, locals := 53 } : Room).cells ({ frames := 4, cells := 0, slots := 0, locals := 53 } : Room).slots) := by
  refine MetFree.of_bodySF (plainFor_of_name own_pn1) hisR ?_
  intro p e s m args below meth c s₁ Bd hml0 hP hK
  obtain ⟨rfl, hZ, hh⟩ := hP
  have hx := Bd.exec
  have hby := Bd.bytes
  have hml : c.maxLocals = 3 := hml0
  have hown : s.vm.findClass "com/example/datumbridge/datumbridge/cli/InputLines" = some m.cls := findClass_of_methodNamed Bd.named
  have hnm := (name_of_methodNamed Bd.named Bd.method).1
  have X0 : Stand p l e ({ frames := 4, cells := 0, slots := 0, locals := 53 } : Room) s m #[(.ref asx), (.int (0 : Int32))] below meth c s₁ [] 0 0 := Stand.of_body Bd
  have e0 : s₁.heap = h0 := by rw [← hh, Bd.state]; rfl
  have N0 := Fr.nil n0
  have st0 : own_Go p e below (s₁.setTop (mkF m 0 #[.val (.ref asx), .val (.int (0 : Int32)), .unset] [])) (s₁.setTop (entryFrame m #[(.ref asx), (.int (0 : Int32))] 3)) := fun t k => castTop (own_ef9_RI m asx (0 : Int32)) k
  have hln : ∀ d ∈ StrChars.Road.wordsLen, d.before a0 Z = true := fun d hd => hw d ((by decide +kernel : ∀ d ∈ StrChars.Road.wordsLen, d ∈ tables_1) d hd)
  have hch : ∀ d ∈ StrChars.Road.wordsChN, d.before a0 Z = true := fun d hd => hw d ((by decide +kernel : ∀ d ∈ StrChars.Road.wordsChN, d ∈ tables_1) d hd)
  have hcd : StrChars.Road.CodA ([ch0, ch1, ch2, ch3] : List Int32) 0 (Int32.ofNat 4) ((([ch0, ch1, ch2, ch3] : List Int32).map (fun c => c.toInt8.toInt32)).map Value.int) := StrChars.Road.codOf (n := 4) rfl (fun x hx => (hp x hx).2)
  have hbd := own_up _ hp
  have st1 : own_Go p e below (s₁.setTop (mkF m 4 #[.val (.ref asx), .val (.int (0 : Int32)), .val (.int (0 : Int32))] [(.ref asx), (.int (0 : Int32))])) (s₁.setTop (entryFrame m #[(.ref asx), (.int (0 : Int32))] 3)) := fun t kt => st0 t (by
    show Steps p.tables e below (s₁.setTop (mkF m 0 #[.val (.ref asx), .val (.int (0 : Int32)), .unset] [])) _
    refine XS.iloadN X0.here hx rfl (hb hby d9_0) rfl ?_
    show Steps p.tables e below (s₁.setTop (mkF m 1 #[.val (.ref asx), .val (.int (0 : Int32)), .unset] [(.int (0 : Int32))])) _
    refine XS.istoreN X0.here hx rfl (hb hby d9_1) rfl (l' := #[.val (.ref asx), .val (.int (0 : Int32)), .val (.int (0 : Int32))]) rfl ?_
    show Steps p.tables e below (s₁.setTop (mkF m 2 #[.val (.ref asx), .val (.int (0 : Int32)), .val (.int (0 : Int32))] [])) _
    refine XS.iloadN X0.here hx rfl (hb hby d9_2) rfl ?_
    show Steps p.tables e below (s₁.setTop (mkF m 3 #[.val (.ref asx), .val (.int (0 : Int32)), .val (.int (0 : Int32))] [(.int (0 : Int32))])) _
    refine XS.aloadN X0.here hx rfl (hb hby d9_3) rfl rfl ?_
    show Steps p.tables e below (s₁.setTop (mkF m 4 #[.val (.ref asx), .val (.int (0 : Int32)), .val (.int (0 : Int32))] [(.ref asx), (.int (0 : Int32))])) _
    exact kt)
  obtain ⟨cq2, kq2, q2a, q2b, q2c⟩ := isOf hZ e0 E_as
  obtain ⟨_, _, ⟨T2, L2, k2, n2⟩, -, X2, ⟨Lc2, hQ2, l2, y2, z2⟩, ls2⟩ := X0.virtualBack hx (y := (⟨"java/lang/String", "length", "()I"⟩ : MethodName)) (z := (⟨"java/lang/String", "length", "()I"⟩ : MethodName)) hown (mvT hZ (hw _ (List.mem_of_getElem? (i := 42) rfl))) (mvT hZ (hw _ (List.mem_of_getElem? (i := 43) rfl))) (notFace_of_selects (args := #[]) (mvT hZ (hw _ (List.mem_of_getElem? (i := 45) rfl)))) (mvT hZ (hw _ (List.mem_of_getElem? (i := 45) rfl))) (mvT hZ (hw _ (List.mem_of_getElem? (i := 44) rfl))) (by decide) (StrChars.Road.lenW (W := 1) hZ hln (kI := 4) (hw _ (List.mem_of_getElem? (i := 6) rfl)) E_as F_va F_co V_at hcd hbd (O2.ext X00.2) P5 (Nat.le_of_ble_eq_true rfl : ([ch0, ch1, ch2, ch3] : List Int32).length ≤ 4000) (by decide) (by decide)) q2a q2c (g := (mkF m 4 #[.val (.ref asx), .val (.int (0 : Int32)), .val (.int (0 : Int32))] [(.ref asx), (.int (0 : Int32))])) rfl (by rw [hml]; rfl) (Steps.refl _) (argsL := []) (rest := [(.int (0 : Int32))]) (lenOf own_pd0 rfl) rfl (by show 2 * 0 + _ ≤ _; exact Nat.le_of_eq rfl) (hb hby d9_4) (fun _ _ => ⟨rfl, e0, (by decide : 0 + 0 ≤ _), (by decide : 0 + 0 ≤ _)⟩)
  dsimp only [Pt.U, Pt.locs, Pt.cells, Pt.slots] at X2 l2 y2 z2 ls2 hQ2
  subst l2 y2 z2
  obtain ⟨rfl, rfl, eq2⟩ := hQ2
  have N2 := Fr.app N0 (Fr.nil n0)
  have st3 : own_Go p e below (T2.setTop (mkF m 7 #[.val (.ref asx), .val (.int (0 : Int32)), .val (.int (0 : Int32))] [(.int (4 : Int32)), (.int (0 : Int32))])) (s₁.setTop (entryFrame m #[(.ref asx), (.int (0 : Int32))] 3)) := fun t kt => st1 t (ls2.trans kt)
  have hc4 : (0 : Int32) < (4 : Int32) := by decide
  have st5 : own_Go p e below (T2.setTop (mkF m 12 #[.val (.ref asx), .val (.int (0 : Int32)), .val (.int (0 : Int32))] [(.int (0 : Int32)), (.ref asx)])) (s₁.setTop (entryFrame m #[(.ref asx), (.int (0 : Int32))] 3)) := fun t kt => st3 t (by
    show Steps p.tables e below (T2.setTop (mkF m 7 #[.val (.ref asx), .val (.int (0 : Int32)), .val (.int (0 : Int32))] [(.int (4 : Int32)), (.int (0 : Int32))])) _
    refine XS.icmpNo X2.here hx rfl (hb hby d9_7) rfl (tlt hc4).2.1 ?_
    show Steps p.tables e below (T2.setTop (mkF m 10 #[.val (.ref asx), .val (.int (0 : Int32)), .val (.int (0 : Int32))] [])) _
    refine XS.aloadN X2.here hx rfl (hb hby d9_10) rfl rfl ?_
    show Steps p.tables e below (T2.setTop (mkF m 11 #[.val (.ref asx), .val (.int (0 : Int32)), .val (.int (0 : Int32))] [(.ref asx)])) _
    refine XS.iloadN X2.here hx rfl (hb hby d9_11) rfl ?_
    show Steps p.tables e below (T2.setTop (mkF m 12 #[.val (.ref asx), .val (.int (0 : Int32)), .val (.int (0 : Int32))] [(.int (0 : Int32)), (.ref asx)])) _
    exact kt)
  obtain ⟨cq6, kq6, q6a, q6b, q6c⟩ := isOf hZ eq2 E_as
  obtain ⟨_, _, ⟨T6, L6, k6, n6⟩, -, X6, ⟨Lc6, hQ6, l6, y6, z6⟩, ls6⟩ := X2.virtualBack hx (y := (⟨"java/lang/String", "charAt", "(I)C"⟩ : MethodName)) (z := (⟨"java/lang/String", "charAt", "(I)C"⟩ : MethodName)) hown (mvT hZ (hw _ (List.mem_of_getElem? (i := 52) rfl))) (mvT hZ (hw _ (List.mem_of_getElem? (i := 53) rfl))) (notFace_of_selects (args := #[]) (mvT hZ (hw _ (List.mem_of_getElem? (i := 55) rfl)))) (mvT hZ (hw _ (List.mem_of_getElem? (i := 55) rfl))) (mvT hZ (hw _ (List.mem_of_getElem? (i := 54) rfl))) (by decide) (StrChars.Road.chN (W := 0) hZ hch (kI := 4) (hw _ (List.mem_of_getElem? (i := 6) rfl)) E_as F_va F_co V_at hcd hbd (O2.ext X00.2) P5 (O4.ext X00.2) rG (Nat.le_of_ble_eq_true rfl : ([ch0, ch1, ch2, ch3] : List Int32).length ≤ 4000) (i := 0) (Nat.le_of_ble_eq_true rfl : 0 < ([ch0, ch1, ch2, ch3] : List Int32).length) (j := 0) rfl (by decide) (by decide)) q6a q6c (g := (mkF m 12 #[.val (.ref asx), .val (.int (0 : Int32)), .val (.int (0 : Int32))] [(.int (0 : Int32)), (.ref asx)])) rfl (by rw [hml]; rfl) (Steps.refl _) (argsL := [(.int (0 : Int32))]) (rest := []) (lenOf own_pd1 rfl) rfl (by show 2 * 0 + _ ≤ _; exact Nat.le_of_eq rfl) (hb hby d9_12) (fun _ _ => ⟨rfl, eq2, (by decide : 0 + 0 ≤ _), (by decide : 0 + 0 ≤ _)⟩)
  dsimp only [Pt.U, Pt.locs, Pt.cells, Pt.slots] at X6 l6 y6 z6 ls6 hQ6
  subst l6 y6 z6
  obtain ⟨rfl, rfl, eq6⟩ := hQ6
  have N6 := Fr.app N2 (Fr.nil n0)
  have st7 : own_Go p e below (T6.setTop (mkF m 15 #[.val (.ref asx), .val (.int (0 : Int32)), .val (.int (0 : Int32))] [(.int ch0)])) (s₁.setTop (entryFrame m #[(.ref asx), (.int (0 : Int32))] 3)) := fun t kt => st5 t (ls6.trans kt)
  obtain ⟨_, _, ⟨T8, L8, k8, n8⟩, -, X8, ⟨Lc8, hQ8, l8, y8, z8⟩, ls8⟩ := Jvm.LawKit.callS X6 hx (y := (⟨"com/example/datumbridge/datumbridge/cli/InputLines", "isBlank", "(C)Z"⟩ : MethodName)) hown (mvT hZ (hw _ (List.mem_of_getElem? (i := 74) rfl))) (mvT hZ (hw _ (List.mem_of_getElem? (i := 75) rfl))) (mvT hZ (hw _ (List.mem_of_getElem? (i := 40) rfl))) (mvT hZ (hw _ (List.mem_of_getElem? (i := 76) rfl))) (by decide) (backOf (W := 0) (rm_isBlank l Z a0 hw [] ch0 h0 n0 Z0) hZ (hw _ (List.mem_of_getElem? (i := 76) rfl)) (hw _ (List.mem_of_getElem? (i := 40) rfl)) (by decide) (by decide)) (g := (mkF m 15 #[.val (.ref asx), .val (.int (0 : Int32)), .val (.int (0 : Int32))] [(.int ch0)])) rfl (by rw [hml]; rfl) (argsL := [(.int ch0)]) (rest := []) (lenOf own_pd2 rfl) rfl (by show 2 * 0 + _ ≤ _; exact Nat.le_of_eq rfl) (hb hby d9_15) (fun _ _ => ⟨rfl, eq6, (by decide : 0 + 0 ≤ _), (by decide : 0 + 0 ≤ _)⟩)
  dsimp only [Pt.U, Pt.locs, Pt.cells, Pt.slots] at X8 l8 y8 z8 ls8 hQ8
  subst l8 y8 z8
  obtain ⟨rfl, Nq8, eq8⟩ := hQ8
  have N8 := Fr.app N6 Nq8
  have st9 : own_Go p e below (T8.setTop (mkF m 18 #[.val (.ref asx), .val (.int (0 : Int32)), .val (.int (0 : Int32))] [(.int (own_bl ch0))])) (s₁.setTop (entryFrame m #[(.ref asx), (.int (0 : Int32))] 3)) := fun t kt => st7 t (ls8 t kt)
  by_cases q0 : (own_bl ch0) = (0 : Int32)
  · have st10 : own_Go p e below (T8.setTop (mkF m 4 #[.val (.ref asx), .val (.int (0 : Int32)), .val (.int ((0 : Int32) + (1 : Int32)))] [(.ref asx), (.int ((0 : Int32) + (1 : Int32)))])) (s₁.setTop (entryFrame m #[(.ref asx), (.int (0 : Int32))] 3)) := fun t kt => st9 t (by
      show Steps p.tables e below (T8.setTop (mkF m 18 #[.val (.ref asx), .val (.int (0 : Int32)), .val (.int (0 : Int32))] [(.int (own_bl ch0))])) _
      refine XS.ifNo X8.here hx rfl (hb hby d9_18) rfl ((if0 _ _).trans (teq q0).2) ?_
      show Steps p.tables e below (T8.setTop (mkF m 21 #[.val (.ref asx), .val (.int (0 : Int32)), .val (.int (0 : Int32))] [])) _
      refine XS.iinc X8.here hx rfl (hb hby d9_21) rfl (l' := #[.val (.ref asx), .val (.int (0 : Int32)), .val (.int ((0 : Int32) + (1 : Int32)))]) rfl ?_
      show Steps p.tables e below (T8.setTop (mkF m 24 #[.val (.ref asx), .val (.int (0 : Int32)), .val (.int ((0 : Int32) + (1 : Int32)))] [])) _
      refine XS.goto X8.here hx rfl (pc0 := 24) (pc' := 2) rfl (hb hby d9_24) (by decide) (by decide) ?_
      show Steps p.tables e below (T8.setTop (mkF m 2 #[.val (.ref asx), .val (.int (0 : Int32)), .val (.int ((0 : Int32) + (1 : Int32)))] [])) _
      refine XS.iloadN X8.here hx rfl (hb hby d9_2) rfl ?_
      show Steps p.tables e below (T8.setTop (mkF m 3 #[.val (.ref asx), .val (.int (0 : Int32)), .val (.int ((0 : Int32) + (1 : Int32)))] [(.int ((0 : Int32) + (1 : Int32)))])) _
      refine XS.aloadN X8.here hx rfl (hb hby d9_3) rfl rfl ?_
      show Steps p.tables e below (T8.setTop (mkF m 4 #[.val (.ref asx), .val (.int (0 : Int32)), .val (.int ((0 : Int32) + (1 : Int32)))] [(.ref asx), (.int ((0 : Int32) + (1 : Int32)))])) _
      exact kt)
    obtain ⟨cq11, kq11, q11a, q11b, q11c⟩ := isOf hZ eq8 E_as
    obtain ⟨_, _, ⟨T11, L11, k11, n11⟩, -, X11, ⟨Lc11, hQ11, l11, y11, z11⟩, ls11⟩ := X8.virtualBack hx (y := (⟨"java/lang/String", "length", "()I"⟩ : MethodName)) (z := (⟨"java/lang/String", "length", "()I"⟩ : MethodName)) hown (mvT hZ (hw _ (List.mem_of_getElem? (i := 42) rfl))) (mvT hZ (hw _ (List.mem_of_getElem? (i := 43) rfl))) (notFace_of_selects (args := #[]) (mvT hZ (hw _ (List.mem_of_getElem? (i := 45) rfl)))) (mvT hZ (hw _ (List.mem_of_getElem? (i := 45) rfl))) (mvT hZ (hw _ (List.mem_of_getElem? (i := 44) rfl))) (by decide) (StrChars.Road.lenW (W := 1) hZ hln (kI := 4) (hw _ (List.mem_of_getElem? (i := 6) rfl)) E_as F_va F_co V_at hcd hbd (O2.ext X00.2) P5 (Nat.le_of_ble_eq_true rfl : ([ch0, ch1, ch2, ch3] : List Int32).length ≤ 4000) (by decide) (by decide)) q11a q11c (g := (mkF m 4 #[.val (.ref asx), .val (.int (0 : Int32)), .val (.int ((0 : Int32) + (1 : Int32)))] [(.ref asx), (.int ((0 : Int32) + (1 : Int32)))])) rfl (by rw [hml]; rfl) (Steps.refl _) (argsL := []) (rest := [(.int ((0 : Int32) + (1 : Int32)))]) (lenOf own_pd0 rfl) rfl (by show 2 * 0 + _ ≤ _; exact Nat.le_of_eq rfl) (hb hby d9_4) (fun _ _ => ⟨rfl, eq8, (by decide : 0 + 0 ≤ _), (by decide : 0 + 0 ≤ _)⟩)
    dsimp only [Pt.U, Pt.locs, Pt.cells, Pt.slots] at X11 l11 y11 z11 ls11 hQ11
    subst l11 y11 z11
    obtain ⟨rfl, rfl, eq11⟩ := hQ11
    have N11 := Fr.app N8 (Fr.nil n0)
    have st12 : own_Go p e below (T11.setTop (mkF m 7 #[.val (.ref asx), .val (.int (0 : Int32)), .val (.int ((0 : Int32) + (1 : Int32)))] [(.int (4 : Int32)), (.int ((0 : Int32) + (1 : Int32)))])) (s₁.setTop (entryFrame m #[(.ref asx), (.int (0 : Int32))] 3)) := fun t kt => st10 t (ls11.trans kt)
    have hc13 : ((0 : Int32) + (1 : Int32)) < (4 : Int32) := by decide
    have st14 : own_Go p e below (T11.setTop (mkF m 12 #[.val (.ref asx), .val (.int (0 : Int32)), .val (.int ((0 : Int32) + (1 : Int32)))] [(.int ((0 : Int32) + (1 : Int32))), (.ref asx)])) (s₁.setTop (entryFrame m #[(.ref asx), (.int (0 : Int32))] 3)) := fun t kt => st12 t (by
      show Steps p.tables e below (T11.setTop (mkF m 7 #[.val (.ref asx), .val (.int (0 : Int32)), .val (.int ((0 : Int32) + (1 : Int32)))] [(.int (4 : Int32)), (.int ((0 : Int32) + (1 : Int32)))])) _
      refine XS.icmpNo X11.here hx rfl (hb hby d9_7) rfl (tlt hc13).2.1 ?_
      show Steps p.tables e below (T11.setTop (mkF m 10 #[.val (.ref asx), .val (.int (0 : Int32)), .val (.int ((0 : Int32) + (1 : Int32)))] [])) _
      refine XS.aloadN X11.here hx rfl (hb hby d9_10) rfl rfl ?_
      show Steps p.tables e below (T11.setTop (mkF m 11 #[.val (.ref asx), .val (.int (0 : Int32)), .val (.int ((0 : Int32) + (1 : Int32)))] [(.ref asx)])) _
      refine XS.iloadN X11.here hx rfl (hb hby d9_11) rfl ?_
      show Steps p.tables e below (T11.setTop (mkF m 12 #[.val (.ref asx), .val (.int (0 : Int32)), .val (.int ((0 : Int32) + (1 : Int32)))] [(.int ((0 : Int32) + (1 : Int32))), (.ref asx)])) _
      exact kt)
    obtain ⟨cq15, kq15, q15a, q15b, q15c⟩ := isOf hZ eq11 E_as
    obtain ⟨_, _, ⟨T15, L15, k15, n15⟩, -, X15, ⟨Lc15, hQ15, l15, y15, z15⟩, ls15⟩ := X11.virtualBack hx (y := (⟨"java/lang/String", "charAt", "(I)C"⟩ : MethodName)) (z := (⟨"java/lang/String", "charAt", "(I)C"⟩ : MethodName)) hown (mvT hZ (hw _ (List.mem_of_getElem? (i := 52) rfl))) (mvT hZ (hw _ (List.mem_of_getElem? (i := 53) rfl))) (notFace_of_selects (args := #[]) (mvT hZ (hw _ (List.mem_of_getElem? (i := 55) rfl)))) (mvT hZ (hw _ (List.mem_of_getElem? (i := 55) rfl))) (mvT hZ (hw _ (List.mem_of_getElem? (i := 54) rfl))) (by decide) (StrChars.Road.chN (W := 0) hZ hch (kI := 4) (hw _ (List.mem_of_getElem? (i := 6) rfl)) E_as F_va F_co V_at hcd hbd (O2.ext X00.2) P5 (O4.ext X00.2) rG (Nat.le_of_ble_eq_true rfl : ([ch0, ch1, ch2, ch3] : List Int32).length ≤ 4000) (i := 1) (Nat.le_of_ble_eq_true rfl : 1 < ([ch0, ch1, ch2, ch3] : List Int32).length) (j := 1) rfl (by decide) (by decide)) q15a q15c (g := (mkF m 12 #[.val (.ref asx), .val (.int (0 : Int32)), .val (.int ((0 : Int32) + (1 : Int32)))] [(.int ((0 : Int32) + (1 : Int32))), (.ref asx)])) rfl (by rw [hml]; rfl) (Steps.refl _) (argsL := [(.int ((0 : Int32) + (1 : Int32)))]) (rest := []) (lenOf own_pd1 rfl) rfl (by show 2 * 0 + _ ≤ _; exact Nat.le_of_eq rfl) (hb hby d9_12) (fun _ _ => ⟨rfl, eq11, (by decide : 0 + 0 ≤ _), (by decide : 0 + 0 ≤ _)⟩)
    dsimp only [Pt.U, Pt.locs, Pt.cells, Pt.slots] at X15 l15 y15 z15 ls15 hQ15
    subst l15 y15 z15
    obtain ⟨rfl, rfl, eq15⟩ := hQ15
    have N15 := Fr.app N11 (Fr.nil n0)
    have st16 : own_Go p e below (T15.setTop (mkF m 15 #[.val (.ref asx), .val (.int (0 : Int32)), .val (.int ((0 : Int32) + (1 : Int32)))] [(.int ch1)])) (s₁.setTop (entryFrame m #[(.ref asx), (.int (0 : Int32))] 3)) := fun t kt => st14 t (ls15.trans kt)
    obtain ⟨_, _, ⟨T17, L17, k17, n17⟩, -, X17, ⟨Lc17, hQ17, l17, y17, z17⟩, ls17⟩ := Jvm.LawKit.callS X15 hx (y := (⟨"com/example/datumbridge/datumbridge/cli/InputLines", "isBlank", "(C)Z"⟩ : MethodName)) hown (mvT hZ (hw _ (List.mem_of_getElem? (i := 74) rfl))) (mvT hZ (hw _ (List.mem_of_getElem? (i := 75) rfl))) (mvT hZ (hw _ (List.mem_of_getElem? (i := 40) rfl))) (mvT hZ (hw _ (List.mem_of_getElem? (i := 76) rfl))) (by decide) (backOf (W := 0) (rm_isBlank l Z a0 hw [] ch1 h0 n0 Z0) hZ (hw _ (List.mem_of_getElem? (i := 76) rfl)) (hw _ (List.mem_of_getElem? (i := 40) rfl)) (by decide) (by decide)) (g := (mkF m 15 #[.val (.ref asx), .val (.int (0 : Int32)), .val (.int ((0 : Int32) + (1 : Int32)))] [(.int ch1)])) rfl (by rw [hml]; rfl) (argsL := [(.int ch1)]) (rest := []) (lenOf own_pd2 rfl) rfl (by show 2 * 0 + _ ≤ _; exact Nat.le_of_eq rfl) (hb hby d9_15) (fun _ _ => ⟨rfl, eq15, (by decide : 0 + 0 ≤ _), (by decide : 0 + 0 ≤ _)⟩)
    dsimp only [Pt.U, Pt.locs, Pt.cells, Pt.slots] at X17 l17 y17 z17 ls17 hQ17
    subst l17 y17 z17
    obtain ⟨rfl, Nq17, eq17⟩ := hQ17
    have N17 := Fr.app N15 Nq17
    have st18 : own_Go p e below (T17.setTop (mkF m 18 #[.val (.ref asx), .val (.int (0 : Int32)), .val (.int ((0 : Int32) + (1 : Int32)))] [(.int (own_bl ch1))])) (s₁.setTop (entryFrame m #[(.ref asx), (.int (0 : Int32))] 3)) := fun t kt => st16 t (ls17 t kt)
    by_cases q1 : (own_bl ch1) = (0 : Int32)
    · have st19 : own_Go p e below (T17.setTop (mkF m 4 #[.val (.ref asx), .val (.int (0 : Int32)), .val (.int (((0 : Int32) + (1 : Int32)) + (1 : Int32)))] [(.ref asx), (.int (((0 : Int32) + (1 : Int32)) + (1 : Int32)))])) (s₁.setTop (entryFrame m #[(.ref asx), (.int (0 : Int32))] 3)) := fun t kt => st18 t (by
        show Steps p.tables e below (T17.setTop (mkF m 18 #[.val (.ref asx), .val (.int (0 : Int32)), .val (.int ((0 : Int32) + (1 : Int32)))] [(.int (own_bl ch1))])) _
        refine XS.ifNo X17.here hx rfl (hb hby d9_18) rfl ((if0 _ _).trans (teq q1).2) ?_
        show Steps p.tables e below (T17.setTop (mkF m 21 #[.val (.ref asx), .val (.int (0 : Int32)), .val (.int ((0 : Int32) + (1 : Int32)))] [])) _
        refine XS.iinc X17.here hx rfl (hb hby d9_21) rfl (l' := #[.val (.ref asx), .val (.int (0 : Int32)), .val (.int (((0 : Int32) + (1 : Int32)) + (1 : Int32)))]) rfl ?_
        show Steps p.tables e below (T17.setTop (mkF m 24 #[.val (.ref asx), .val (.int (0 : Int32)), .val (.int (((0 : Int32) + (1 : Int32)) + (1 : Int32)))] [])) _
        refine XS.goto X17.here hx rfl (pc0 := 24) (pc' := 2) rfl (hb hby d9_24) (by decide) (by decide) ?_
        show Steps p.tables e below (T17.setTop (mkF m 2 #[.val (.ref asx), .val (.int (0 : Int32)), .val (.int (((0 : Int32) + (1 : Int32)) + (1 : Int32)))] [])) _
        refine XS.iloadN X17.here hx rfl (hb hby d9_2) rfl ?_
        show Steps p.tables e below (T17.setTop (mkF m 3 #[.val (.ref asx), .val (.int (0 : Int32)), .val (.int (((0 : Int32) + (1 : Int32)) + (1 : Int32)))] [(.int (((0 : Int32) + (1 : Int32)) + (1 : Int32)))])) _
        refine XS.aloadN X17.here hx rfl (hb hby d9_3) rfl rfl ?_
        show Steps p.tables e below (T17.setTop (mkF m 4 #[.val (.ref asx), .val (.int (0 : Int32)), .val (.int (((0 : Int32) + (1 : Int32)) + (1 : Int32)))] [(.ref asx), (.int (((0 : Int32) + (1 : Int32)) + (1 : Int32)))])) _
        exact kt)
      obtain ⟨cq20, kq20, q20a, q20b, q20c⟩ := isOf hZ eq17 E_as
      obtain ⟨_, _, ⟨T20, L20, k20, n20⟩, -, X20, ⟨Lc20, hQ20, l20, y20, z20⟩, ls20⟩ := X17.virtualBack hx (y := (⟨"java/lang/String", "length", "()I"⟩ : MethodName)) (z := (⟨"java/lang/String", "length", "()I"⟩ : MethodName)) hown (mvT hZ (hw _ (List.mem_of_getElem? (i := 42) rfl))) (mvT hZ (hw _ (List.mem_of_getElem? (i := 43) rfl))) (notFace_of_selects (args := #[]) (mvT hZ (hw _ (List.mem_of_getElem? (i := 45) rfl)))) (mvT hZ (hw _ (List.mem_of_getElem? (i := 45) rfl))) (mvT hZ (hw _ (List.mem_of_getElem? (i := 44) rfl))) (by decide) (StrChars.Road.lenW (W := 1) hZ hln (kI := 4) (hw _ (List.mem_of_getElem? (i := 6) rfl)) E_as F_va F_co V_at hcd hbd (O2.ext X00.2) P5 (Nat.le_of_ble_eq_true rfl : ([ch0, ch1, ch2, ch3] : List Int32).length ≤ 4000) (by decide) (by decide)) q20a q20c (g := (mkF m 4 #[.val (.ref asx), .val (.int (0 : Int32)), .val (.int (((0 : Int32) + (1 : Int32)) + (1 : Int32)))] [(.ref asx), (.int (((0 : Int32) + (1 : Int32)) + (1 : Int32)))])) rfl (by rw [hml]; rfl) (Steps.refl _) (argsL := []) (rest := [(.int (((0 : Int32) + (1 : Int32)) + (1 : Int32)))]) (lenOf own_pd0 rfl) rfl (by show 2 * 0 + _ ≤ _; exact Nat.le_of_eq rfl) (hb hby d9_4) (fun _ _ => ⟨rfl, eq17, (by decide : 0 + 0 ≤ _), (by decide : 0 + 0 ≤ _)⟩)
      dsimp only [Pt.U, Pt.locs, Pt.cells, Pt.slots] at X20 l20 y20 z20 ls20 hQ20
      subst l20 y20 z20
      obtain ⟨rfl, rfl, eq20⟩ := hQ20
      have N20 := Fr.app N17 (Fr.nil n0)
      have st21 : own_Go p e below (T20.setTop (mkF m 7 #[.val (.ref asx), .val (.int (0 : Int32)), .val (.int (((0 : Int32) + (1 : Int32)) + (1 : Int32)))] [(.int (4 : Int32)), (.int (((0 : Int32) + (1 : Int32)) + (1 : Int32)))])) (s₁.setTop (entryFrame m #[(.ref asx), (.int (0 : Int32))] 3)) := fun t kt => st19 t (ls20.trans kt)
      have hc22 : (((0 : Int32) + (1 : Int32)) + (1 : Int32)) < (4 : Int32) := by decide
      have st23 : own_Go p e below (T20.setTop (mkF m 12 #[.val (.ref asx), .val (.int (0 : Int32)), .val (.int (((0 : Int32) + (1 : Int32)) + (1 : Int32)))] [(.int (((0 : Int32) + (1 : Int32)) + (1 : Int32))), (.ref asx)])) (s₁.setTop (entryFrame m #[(.ref asx), (.int (0 : Int32))] 3)) := fun t kt => st21 t (by
        show Steps p.tables e below (T20.setTop (mkF m 7 #[.val (.ref asx), .val (.int (0 : Int32)), .val (.int (((0 : Int32) + (1 : Int32)) + (1 : Int32)))] [(.int (4 : Int32)), (.int (((0 : Int32) + (1 : Int32)) + (1 : Int32)))])) _
        refine XS.icmpNo X20.here hx rfl (hb hby d9_7) rfl (tlt hc22).2.1 ?_
        show Steps p.tables e below (T20.setTop (mkF m 10 #[.val (.ref asx), .val (.int (0 : Int32)), .val (.int (((0 : Int32) + (1 : Int32)) + (1 : Int32)))] [])) _
        refine XS.aloadN X20.here hx rfl (hb hby d9_10) rfl rfl ?_
        show Steps p.tables e below (T20.setTop (mkF m 11 #[.val (.ref asx), .val (.int (0 : Int32)), .val (.int (((0 : Int32) + (1 : Int32)) + (1 : Int32)))] [(.ref asx)])) _
        refine XS.iloadN X20.here hx rfl (hb hby d9_11) rfl ?_
        show Steps p.tables e below (T20.setTop (mkF m 12 #[.val (.ref asx), .val (.int (0 : Int32)), .val (.int (((0 : Int32) + (1 : Int32)) + (1 : Int32)))] [(.int (((0 : Int32) + (1 : Int32)) + (1 : Int32))), (.ref asx)])) _
        exact kt)
      obtain ⟨cq24, kq24, q24a, q24b, q24c⟩ := isOf hZ eq20 E_as
      obtain ⟨_, _, ⟨T24, L24, k24, n24⟩, -, X24, ⟨Lc24, hQ24, l24, y24, z24⟩, ls24⟩ := X20.virtualBack hx (y := (⟨"java/lang/String", "charAt", "(I)C"⟩ : MethodName)) (z := (⟨"java/lang/String", "charAt", "(I)C"⟩ : MethodName)) hown (mvT hZ (hw _ (List.mem_of_getElem? (i := 52) rfl))) (mvT hZ (hw _ (List.mem_of_getElem? (i := 53) rfl))) (notFace_of_selects (args := #[]) (mvT hZ (hw _ (List.mem_of_getElem? (i := 55) rfl)))) (mvT hZ (hw _ (List.mem_of_getElem? (i := 55) rfl))) (mvT hZ (hw _ (List.mem_of_getElem? (i := 54) rfl))) (by decide) (StrChars.Road.chN (W := 0) hZ hch (kI := 4) (hw _ (List.mem_of_getElem? (i := 6) rfl)) E_as F_va F_co V_at hcd hbd (O2.ext X00.2) P5 (O4.ext X00.2) rG (Nat.le_of_ble_eq_true rfl : ([ch0, ch1, ch2, ch3] : List Int32).length ≤ 4000) (i := 2) (Nat.le_of_ble_eq_true rfl : 2 < ([ch0, ch1, ch2, ch3] : List Int32).length) (j := 2) rfl (by decide) (by decide)) q24a q24c (g := (mkF m 12 #[.val (.ref asx), .val (.int (0 : Int32)), .val (.int (((0 : Int32) + (1 : Int32)) + (1 : Int32)))] [(.int (((0 : Int32) + (1 : Int32)) + (1 : Int32))), (.ref asx)])) rfl (by rw [hml]; rfl) (Steps.refl _) (argsL := [(.int (((0 : Int32) + (1 : Int32)) + (1 : Int32)))]) (rest := []) (lenOf own_pd1 rfl) rfl (by show 2 * 0 + _ ≤ _; exact Nat.le_of_eq rfl) (hb hby d9_12) (fun _ _ => ⟨rfl, eq20, (by decide : 0 + 0 ≤ _), (by decide : 0 + 0 ≤ _)⟩)
      dsimp only [Pt.U, Pt.locs, Pt.cells, Pt.slots] at X24 l24 y24 z24 ls24 hQ24
      subst l24 y24 z24
      obtain ⟨rfl, rfl, eq24⟩ := hQ24
      have N24 := Fr.app N20 (Fr.nil n0)
      have st25 : own_Go p e below (T24.setTop (mkF m 15 #[.val (.ref asx), .val (.int (0 : Int32)), .val (.int (((0 : Int32) + (1 : Int32)) + (1 : Int32)))] [(.int ch2)])) (s₁.setTop (entryFrame m #[(.ref asx), (.int (0 : Int32))] 3)) := fun t kt => st23 t (ls24.trans kt)
      obtain ⟨_, _, ⟨T26, L26, k26, n26⟩, -, X26, ⟨Lc26, hQ26, l26, y26, z26⟩, ls26⟩ := Jvm.LawKit.callS X24 hx (y := (⟨"com/example/datumbridge/datumbridge/cli/InputLines", "isBlank", "(C)Z"⟩ : MethodName)) hown (mvT hZ (hw _ (List.mem_of_getElem? (i := 74) rfl))) (mvT hZ (hw _ (List.mem_of_getElem? (i := 75) rfl))) (mvT hZ (hw _ (List.mem_of_getElem? (i := 40) rfl))) (mvT hZ (hw _ (List.mem_of_getElem? (i := 76) rfl))) (by decide) (backOf (W := 0) (rm_isBlank l Z a0 hw [] ch2 h0 n0 Z0) hZ (hw _ (List.mem_of_getElem? (i := 76) rfl)) (hw _ (List.mem_of_getElem? (i := 40) rfl)) (by decide) (by decide)) (g := (mkF m 15 #[.val (.ref asx), .val (.int (0 : Int32)), .val (.int (((0 : Int32) + (1 : Int32)) + (1 : Int32)))] [(.int ch2)])) rfl (by rw [hml]; rfl) (argsL := [(.int ch2)]) (rest := []) (lenOf own_pd2 rfl) rfl (by show 2 * 0 + _ ≤ _; exact Nat.le_of_eq rfl) (hb hby d9_15) (fun _ _ => ⟨rfl, eq24, (by decide : 0 + 0 ≤ _), (by decide : 0 + 0 ≤ _)⟩)
      dsimp only [Pt.U, Pt.locs, Pt.cells, Pt.slots] at X26 l26 y26 z26 ls26 hQ26
      subst l26 y26 z26
      obtain ⟨rfl, Nq26, eq26⟩ := hQ26
      have N26 := Fr.app N24 Nq26
      have st27 : own_Go p e below (T26.setTop (mkF m 18 #[.val (.ref asx), .val (.int (0 : Int32)), .val (.int (((0 : Int32) + (1 : Int32)) + (1 : Int32)))] [(.int (own_bl ch2))])) (s₁.setTop (entryFrame m #[(.ref asx), (.int (0 : Int32))] 3)) := fun t kt => st25 t (ls26 t kt)
      by_cases q2 : (own_bl ch2) = (0 : Int32)
      · have st28 : own_Go p e below (T26.setTop (mkF m 4 #[.val (.ref asx), .val (.int (0 : Int32)), .val (.int ((((0 : Int32) + (1 : Int32)) + (1 : Int32)) + (1 : Int32)))] [(.ref asx), (.int ((((0 : Int32) + (1 : Int32)) + (1 : Int32)) + (1 : Int32)))])) (s₁.setTop (entryFrame m #[(.ref asx), (.int (0 : Int32))] 3)) := fun t kt => st27 t (by
          show Steps p.tables e below (T26.setTop (mkF m 18 #[.val (.ref asx), .val (.int (0 : Int32)), .val (.int (((0 : Int32) + (1 : Int32)) + (1 : Int32)))] [(.int (own_bl ch2))])) _
          refine XS.ifNo X26.here hx rfl (hb hby d9_18) rfl ((if0 _ _).trans (teq q2).2) ?_
          show Steps p.tables e below (T26.setTop (mkF m 21 #[.val (.ref asx), .val (.int (0 : Int32)), .val (.int (((0 : Int32) + (1 : Int32)) + (1 : Int32)))] [])) _
          refine XS.iinc X26.here hx rfl (hb hby d9_21) rfl (l' := #[.val (.ref asx), .val (.int (0 : Int32)), .val (.int ((((0 : Int32) + (1 : Int32)) + (1 : Int32)) + (1 : Int32)))]) rfl ?_
          show Steps p.tables e below (T26.setTop (mkF m 24 #[.val (.ref asx), .val (.int (0 : Int32)), .val (.int ((((0 : Int32) + (1 : Int32)) + (1 : Int32)) + (1 : Int32)))] [])) _
          refine XS.goto X26.here hx rfl (pc0 := 24) (pc' := 2) rfl (hb hby d9_24) (by decide) (by decide) ?_
          show Steps p.tables e below (T26.setTop (mkF m 2 #[.val (.ref asx), .val (.int (0 : Int32)), .val (.int ((((0 : Int32) + (1 : Int32)) + (1 : Int32)) + (1 : Int32)))] [])) _
          refine XS.iloadN X26.here hx rfl (hb hby d9_2) rfl ?_
          show Steps p.tables e below (T26.setTop (mkF m 3 #[.val (.ref asx), .val (.int (0 : Int32)), .val (.int ((((0 : Int32) + (1 : Int32)) + (1 : Int32)) + (1 : Int32)))] [(.int ((((0 : Int32) + (1 : Int32)) + (1 : Int32)) + (1 : Int32)))])) _
          refine XS.aloadN X26.here hx rfl (hb hby d9_3) rfl rfl ?_
          show Steps p.tables e below (T26.setTop (mkF m 4 #[.val (.ref asx), .val (.int (0 : Int32)), .val (.int ((((0 : Int32) + (1 : Int32)) + (1 : Int32)) + (1 : Int32)))] [(.ref asx), (.int ((((0 : Int32) + (1 : Int32)) + (1 : Int32)) + (1 : Int32)))])) _
          exact kt)
        obtain ⟨cq29, kq29, q29a, q29b, q29c⟩ := isOf hZ eq26 E_as
        obtain ⟨_, _, ⟨T29, L29, k29, n29⟩, -, X29, ⟨Lc29, hQ29, l29, y29, z29⟩, ls29⟩ := X26.virtualBack hx (y := (⟨"java/lang/String", "length", "()I"⟩ : MethodName)) (z := (⟨"java/lang/String", "length", "()I"⟩ : MethodName)) hown (mvT hZ (hw _ (List.mem_of_getElem? (i := 42) rfl))) (mvT hZ (hw _ (List.mem_of_getElem? (i := 43) rfl))) (notFace_of_selects (args := #[]) (mvT hZ (hw _ (List.mem_of_getElem? (i := 45) rfl)))) (mvT hZ (hw _ (List.mem_of_getElem? (i := 45) rfl))) (mvT hZ (hw _ (List.mem_of_getElem? (i := 44) rfl))) (by decide) (StrChars.Road.lenW (W := 1) hZ hln (kI := 4) (hw _ (List.mem_of_getElem? (i := 6) rfl)) E_as F_va F_co V_at hcd hbd (O2.ext X00.2) P5 (Nat.le_of_ble_eq_true rfl : ([ch0, ch1, ch2, ch3] : List Int32).length ≤ 4000) (by decide) (by decide)) q29a q29c (g := (mkF m 4 #[.val (.ref asx), .val (.int (0 : Int32)), .val (.int ((((0 : Int32) + (1 : Int32)) + (1 : Int32)) + (1 : Int32)))] [(.ref asx), (.int ((((0 : Int32) + (1 : Int32)) + (1 : Int32)) + (1 : Int32)))])) rfl (by rw [hml]; rfl) (Steps.refl _) (argsL := []) (rest := [(.int ((((0 : Int32) + (1 : Int32)) + (1 : Int32)) + (1 : Int32)))]) (lenOf own_pd0 rfl) rfl (by show 2 * 0 + _ ≤ _; exact Nat.le_of_eq rfl) (hb hby d9_4) (fun _ _ => ⟨rfl, eq26, (by decide : 0 + 0 ≤ _), (by decide : 0 + 0 ≤ _)⟩)
        dsimp only [Pt.U, Pt.locs, Pt.cells, Pt.slots] at X29 l29 y29 z29 ls29 hQ29
        subst l29 y29 z29
        obtain ⟨rfl, rfl, eq29⟩ := hQ29
        have N29 := Fr.app N26 (Fr.nil n0)
        have st30 : own_Go p e below (T29.setTop (mkF m 7 #[.val (.ref asx), .val (.int (0 : Int32)), .val (.int ((((0 : Int32) + (1 : Int32)) + (1 : Int32)) + (1 : Int32)))] [(.int (4 : Int32)), (.int ((((0 : Int32) + (1 : Int32)) + (1 : Int32)) + (1 : Int32)))])) (s₁.setTop (entryFrame m #[(.ref asx), (.int (0 : Int32))] 3)) := fun t kt => st28 t (ls29.trans kt)
        have hc31 : ((((0 : Int32) + (1 : Int32)) + (1 : Int32)) + (1 : Int32)) < (4 : Int32) := by decide
        have st32 : own_Go p e below (T29.setTop (mkF m 12 #[.val (.ref asx), .val (.int (0 : Int32)), .val (.int ((((0 : Int32) + (1 : Int32)) + (1 : Int32)) + (1 : Int32)))] [(.int ((((0 : Int32) + (1 : Int32)) + (1 : Int32)) + (1 : Int32))), (.ref asx)])) (s₁.setTop (entryFrame m #[(.ref asx), (.int (0 : Int32))] 3)) := fun t kt => st30 t (by
          show Steps p.tables e below (T29.setTop (mkF m 7 #[.val (.ref asx), .val (.int (0 : Int32)), .val (.int ((((0 : Int32) + (1 : Int32)) + (1 : Int32)) + (1 : Int32)))] [(.int (4 : Int32)), (.int ((((0 : Int32) + (1 : Int32)) + (1 : Int32)) + (1 : Int32)))])) _
          refine XS.icmpNo X29.here hx rfl (hb hby d9_7) rfl (tlt hc31).2.1 ?_
          show Steps p.tables e below (T29.setTop (mkF m 10 #[.val (.ref asx), .val (.int (0 : Int32)), .val (.int ((((0 : Int32) + (1 : Int32)) + (1 : Int32)) + (1 : Int32)))] [])) _
          refine XS.aloadN X29.here hx rfl (hb hby d9_10) rfl rfl ?_
          show Steps p.tables e below (T29.setTop (mkF m 11 #[.val (.ref asx), .val (.int (0 : Int32)), .val (.int ((((0 : Int32) + (1 : Int32)) + (1 : Int32)) + (1 : Int32)))] [(.ref asx)])) _
          refine XS.iloadN X29.here hx rfl (hb hby d9_11) rfl ?_
          show Steps p.tables e below (T29.setTop (mkF m 12 #[.val (.ref asx), .val (.int (0 : Int32)), .val (.int ((((0 : Int32) + (1 : Int32)) + (1 : Int32)) + (1 : Int32)))] [(.int ((((0 : Int32) + (1 : Int32)) + (1 : Int32)) + (1 : Int32))), (.ref asx)])) _
          exact kt)
        obtain ⟨cq33, kq33, q33a, q33b, q33c⟩ := isOf hZ eq29 E_as
        obtain ⟨_, _, ⟨T33, L33, k33, n33⟩, -, X33, ⟨Lc33, hQ33, l33, y33, z33⟩, ls33⟩ := X29.virtualBack hx (y := (⟨"java/lang/String", "charAt", "(I)C"⟩ : MethodName)) (z := (⟨"java/lang/String", "charAt", "(I)C"⟩ : MethodName)) hown (mvT hZ (hw _ (List.mem_of_getElem? (i := 52) rfl))) (mvT hZ (hw _ (List.mem_of_getElem? (i := 53) rfl))) (notFace_of_selects (args := #[]) (mvT hZ (hw _ (List.mem_of_getElem? (i := 55) rfl)))) (mvT hZ (hw _ (List.mem_of_getElem? (i := 55) rfl))) (mvT hZ (hw _ (List.mem_of_getElem? (i := 54) rfl))) (by decide) (StrChars.Road.chN (W := 0) hZ hch (kI := 4) (hw _ (List.mem_of_getElem? (i := 6) rfl)) E_as F_va F_co V_at hcd hbd (O2.ext X00.2) P5 (O4.ext X00.2) rG (Nat.le_of_ble_eq_true rfl : ([ch0, ch1, ch2, ch3] : List Int32).length ≤ 4000) (i := 3) (Nat.le_of_ble_eq_true rfl : 3 < ([ch0, ch1, ch2, ch3] : List Int32).length) (j := 3) rfl (by decide) (by decide)) q33a q33c (g := (mkF m 12 #[.val (.ref asx), .val (.int (0 : Int32)), .val (.int ((((0 : Int32) + (1 : Int32)) + (1 : Int32)) + (1 : Int32)))] [(.int ((((0 : Int32) + (1 : Int32)) + (1 : Int32)) + (1 : Int32))), (.ref asx)])) rfl (by rw [hml]; rfl) (Steps.refl _) (argsL := [(.int ((((0 : Int32) + (1 : Int32)) + (1 : Int32)) + (1 : Int32)))]) (rest := []) (lenOf own_pd1 rfl) rfl (by show 2 * 0 + _ ≤ _; exact Nat.le_of_eq rfl) (hb hby d9_12) (fun _ _ => ⟨rfl, eq29, (by decide : 0 + 0 ≤ _), (by decide : 0 + 0 ≤ _)⟩)
        dsimp only [Pt.U, Pt.locs, Pt.cells, Pt.slots] at X33 l33 y33 z33 ls33 hQ33
        subst l33 y33 z33
        obtain ⟨rfl, rfl, eq33⟩ := hQ33
        have N33 := Fr.app N29 (Fr.nil n0)
        have st34 : own_Go p e below (T33.setTop (mkF m 15 #[.val (.ref asx), .val (.int (0 : Int32)), .val (.int ((((0 : Int32) + (1 : Int32)) + (1 : Int32)) + (1 : Int32)))] [(.int ch3)])) (s₁.setTop (entryFrame m #[(.ref asx), (.int (0 : Int32))] 3)) := fun t kt => st32 t (ls33.trans kt)
        obtain ⟨_, _, ⟨T35, L35, k35, n35⟩, -, X35, ⟨Lc35, hQ35, l35, y35, z35⟩, ls35⟩ := Jvm.LawKit.callS X33 hx (y := (⟨"com/example/datumbridge/datumbridge/cli/InputLines", "isBlank", "(C)Z"⟩ : MethodName)) hown (mvT hZ (hw _ (List.mem_of_getElem? (i := 74) rfl))) (mvT hZ (hw _ (List.mem_of_getElem? (i := 75) rfl))) (mvT hZ (hw _ (List.mem_of_getElem? (i := 40) rfl))) (mvT hZ (hw _ (List.mem_of_getElem? (i := 76) rfl))) (by decide) (backOf (W := 0) (rm_isBlank l Z a0 hw [] ch3 h0 n0 Z0) hZ (hw _ (List.mem_of_getElem? (i := 76) rfl)) (hw _ (List.mem_of_getElem? (i := 40) rfl)) (by decide) (by decide)) (g := (mkF m 15 #[.val (.ref asx), .val (.int (0 : Int32)), .val (.int ((((0 : Int32) + (1 : Int32)) + (1 : Int32)) + (1 : Int32)))] [(.int ch3)])) rfl (by rw [hml]; rfl) (argsL := [(.int ch3)]) (rest := []) (lenOf own_pd2 rfl) rfl (by show 2 * 0 + _ ≤ _; exact Nat.le_of_eq rfl) (hb hby d9_15) (fun _ _ => ⟨rfl, eq33, (by decide : 0 + 0 ≤ _), (by decide : 0 + 0 ≤ _)⟩)
        dsimp only [Pt.U, Pt.locs, Pt.cells, Pt.slots] at X35 l35 y35 z35 ls35 hQ35
        subst l35 y35 z35
        obtain ⟨rfl, Nq35, eq35⟩ := hQ35
        have N35 := Fr.app N33 Nq35
        have st36 : own_Go p e below (T35.setTop (mkF m 18 #[.val (.ref asx), .val (.int (0 : Int32)), .val (.int ((((0 : Int32) + (1 : Int32)) + (1 : Int32)) + (1 : Int32)))] [(.int (own_bl ch3))])) (s₁.setTop (entryFrame m #[(.ref asx), (.int (0 : Int32))] 3)) := fun t kt => st34 t (ls35 t kt)
        by_cases q3 : (own_bl ch3) = (0 : Int32)
        · have st37 : own_Go p e below (T35.setTop (mkF m 4 #[.val (.ref asx), .val (.int (0 : Int32)), .val (.int (((((0 : Int32) + (1 : Int32)) + (1 : Int32)) + (1 : Int32)) + (1 : Int32)))] [(.ref asx), (.int (((((0 : Int32) + (1 : Int32)) + (1 : Int32)) + (1 : Int32)) + (1 : Int32)))])) (s₁.setTop (entryFrame m #[(.ref asx), (.int (0 : Int32))] 3)) := fun t kt => st36 t (by
            show Steps p.tables e below (T35.setTop (mkF m 18 #[.val (.ref asx), .val (.int (0 : Int32)), .val (.int ((((0 : Int32) + (1 : Int32)) + (1 : Int32)) + (1 : Int32)))] [(.int (own_bl ch3))])) _
            refine XS.ifNo X35.here hx rfl (hb hby d9_18) rfl ((if0 _ _).trans (teq q3).2) ?_
            show Steps p.tables e below (T35.setTop (mkF m 21 #[.val (.ref asx), .val (.int (0 : Int32)), .val (.int ((((0 : Int32) + (1 : Int32)) + (1 : Int32)) + (1 : Int32)))] [])) _
            refine XS.iinc X35.here hx rfl (hb hby d9_21) rfl (l' := #[.val (.ref asx), .val (.int (0 : Int32)), .val (.int (((((0 : Int32) + (1 : Int32)) + (1 : Int32)) + (1 : Int32)) + (1 : Int32)))]) rfl ?_
            show Steps p.tables e below (T35.setTop (mkF m 24 #[.val (.ref asx), .val (.int (0 : Int32)), .val (.int (((((0 : Int32) + (1 : Int32)) + (1 : Int32)) + (1 : Int32)) + (1 : Int32)))] [])) _
            refine XS.goto X35.here hx rfl (pc0 := 24) (pc' := 2) rfl (hb hby d9_24) (by decide) (by decide) ?_
            show Steps p.tables e below (T35.setTop (mkF m 2 #[.val (.ref asx), .val (.int (0 : Int32)), .val (.int (((((0 : Int32) + (1 : Int32)) + (1 : Int32)) + (1 : Int32)) + (1 : Int32)))] [])) _
            refine XS.iloadN X35.here hx rfl (hb hby d9_2) rfl ?_
            show Steps p.tables e below (T35.setTop (mkF m 3 #[.val (.ref asx), .val (.int (0 : Int32)), .val (.int (((((0 : Int32) + (1 : Int32)) + (1 : Int32)) + (1 : Int32)) + (1 : Int32)))] [(.int (((((0 : Int32) + (1 : Int32)) + (1 : Int32)) + (1 : Int32)) + (1 : Int32)))])) _
            refine XS.aloadN X35.here hx rfl (hb hby d9_3) rfl rfl ?_
            show Steps p.tables e below (T35.setTop (mkF m 4 #[.val (.ref asx), .val (.int (0 : Int32)), .val (.int (((((0 : Int32) + (1 : Int32)) + (1 : Int32)) + (1 : Int32)) + (1 : Int32)))] [(.ref asx), (.int (((((0 : Int32) + (1 : Int32)) + (1 : Int32)) + (1 : Int32)) + (1 : Int32)))])) _
            exact kt)
          obtain ⟨cq38, kq38, q38a, q38b, q38c⟩ := isOf hZ eq35 E_as
          obtain ⟨_, _, ⟨T38, L38, k38, n38⟩, -, X38, ⟨Lc38, hQ38, l38, y38, z38⟩, ls38⟩ := X35.virtualBack hx (y := (⟨"java/lang/String", "length", "()I"⟩ : MethodName)) (z := (⟨"java/lang/String", "length", "()I"⟩ : MethodName)) hown (mvT hZ (hw _ (List.mem_of_getElem? (i := 42) rfl))) (mvT hZ (hw _ (List.mem_of_getElem? (i := 43) rfl))) (notFace_of_selects (args := #[]) (mvT hZ (hw _ (List.mem_of_getElem? (i := 45) rfl)))) (mvT hZ (hw _ (List.mem_of_getElem? (i := 45) rfl))) (mvT hZ (hw _ (List.mem_of_getElem? (i := 44) rfl))) (by decide) (StrChars.Road.lenW (W := 1) hZ hln (kI := 4) (hw _ (List.mem_of_getElem? (i := 6) rfl)) E_as F_va F_co V_at hcd hbd (O2.ext X00.2) P5 (Nat.le_of_ble_eq_true rfl : ([ch0, ch1, ch2, ch3] : List Int32).length ≤ 4000) (by decide) (by decide)) q38a q38c (g := (mkF m 4 #[.val (.ref asx), .val (.int (0 : Int32)), .val (.int (((((0 : Int32) + (1 : Int32)) + (1 : Int32)) + (1 : Int32)) + (1 : Int32)))] [(.ref asx), (.int (((((0 : Int32) + (1 : Int32)) + (1 : Int32)) + (1 : Int32)) + (1 : Int32)))])) rfl (by rw [hml]; rfl) (Steps.refl _) (argsL := []) (rest := [(.int (((((0 : Int32) + (1 : Int32)) + (1 : Int32)) + (1 : Int32)) + (1 : Int32)))]) (lenOf own_pd0 rfl) rfl (by show 2 * 0 + _ ≤ _; exact Nat.le_of_eq rfl) (hb hby d9_4) (fun _ _ => ⟨rfl, eq35, (by decide : 0 + 0 ≤ _), (by decide : 0 + 0 ≤ _)⟩)
          dsimp only [Pt.U, Pt.locs, Pt.cells, Pt.slots] at X38 l38 y38 z38 ls38 hQ38
          subst l38 y38 z38
          obtain ⟨rfl, rfl, eq38⟩ := hQ38
          have N38 := Fr.app N35 (Fr.nil n0)
          have st39 : own_Go p e below (T38.setTop (mkF m 7 #[.val (.ref asx), .val (.int (0 : Int32)), .val (.int (((((0 : Int32) + (1 : Int32)) + (1 : Int32)) + (1 : Int32)) + (1 : Int32)))] [(.int (4 : Int32)), (.int (((((0 : Int32) + (1 : Int32)) + (1 : Int32)) + (1 : Int32)) + (1 : Int32)))])) (s₁.setTop (entryFrame m #[(.ref asx), (.int (0 : Int32))] 3)) := fun t kt => st37 t (ls38.trans kt)
          have hc40 : ¬ ((((((0 : Int32) + (1 : Int32)) + (1 : Int32)) + (1 : Int32)) + (1 : Int32)) < (4 : Int32)) := by decide
          have st41 : own_Go p e below (T38.setTop (mkF m 28 #[.val (.ref asx), .val (.int (0 : Int32)), .val (.int (((((0 : Int32) + (1 : Int32)) + (1 : Int32)) + (1 : Int32)) + (1 : Int32)))] [(.int (((((0 : Int32) + (1 : Int32)) + (1 : Int32)) + (1 : Int32)) + (1 : Int32)))])) (s₁.setTop (entryFrame m #[(.ref asx), (.int (0 : Int32))] 3)) := fun t kt => st39 t (by
            show Steps p.tables e below (T38.setTop (mkF m 7 #[.val (.ref asx), .val (.int (0 : Int32)), .val (.int (((((0 : Int32) + (1 : Int32)) + (1 : Int32)) + (1 : Int32)) + (1 : Int32)))] [(.int (4 : Int32)), (.int (((((0 : Int32) + (1 : Int32)) + (1 : Int32)) + (1 : Int32)) + (1 : Int32)))])) _
            refine XS.icmpYes X38.here hx rfl (pc0 := 7) (pc' := 27) rfl (hb hby d9_7) rfl (flt hc40).2.1 (by decide) (by decide) ?_
            show Steps p.tables e below (T38.setTop (mkF m 27 #[.val (.ref asx), .val (.int (0 : Int32)), .val (.int (((((0 : Int32) + (1 : Int32)) + (1 : Int32)) + (1 : Int32)) + (1 : Int32)))] [])) _
            refine XS.iloadN X38.here hx rfl (hb hby d9_27) rfl ?_
            show Steps p.tables e below (T38.setTop (mkF m 28 #[.val (.ref asx), .val (.int (0 : Int32)), .val (.int (((((0 : Int32) + (1 : Int32)) + (1 : Int32)) + (1 : Int32)) + (1 : Int32)))] [(.int (((((0 : Int32) + (1 : Int32)) + (1 : Int32)) + (1 : Int32)) + (1 : Int32)))])) _
            exact kt)
          obtain ⟨fs, hr, hrun, hended, hW, hsame⟩ := X38.leave (v := (some (.int (((((0 : Int32) + (1 : Int32)) + (1 : Int32)) + (1 : Int32)) + (1 : Int32))))) (fun h => by rw [Bd.returns] at h; cases h)
          refine ⟨_, _, st41 _ ?_, hrun, hended, _, _, rfl, ?_, ⟨_, rfl⟩, hW, hsame.mono (by decide) (by decide)⟩
          · exact retOut X38 hx Bd.returns rfl (Or.inl ⟨rfl, Or.inl rfl, _, rfl⟩) (hb hby d9_28) hr
          · show Q_rm_fe0 Z asx at1 kb ch0 ch1 ch2 ch3 gz gf h0 n0 _ T38.heap _
            rw [eq38]
            exact ⟨by unfold own_f0 own_f1 own_f2 own_f3; rw [if_pos q0, if_pos q1, if_pos q2, if_pos q3] <;> rfl, N38, rfl⟩
        · have st42 : own_Go p e below (T35.setTop (mkF m 28 #[.val (.ref asx), .val (.int (0 : Int32)), .val (.int ((((0 : Int32) + (1 : Int32)) + (1 : Int32)) + (1 : Int32)))] [(.int ((((0 : Int32) + (1 : Int32)) + (1 : Int32)) + (1 : Int32)))])) (s₁.setTop (entryFrame m #[(.ref asx), (.int (0 : Int32))] 3)) := fun t kt => st36 t (by
            show Steps p.tables e below (T35.setTop (mkF m 18 #[.val (.ref asx), .val (.int (0 : Int32)), .val (.int ((((0 : Int32) + (1 : Int32)) + (1 : Int32)) + (1 : Int32)))] [(.int (own_bl ch3))])) _
            refine XS.ifYes X35.here hx rfl (pc0 := 18) (pc' := 27) rfl (hb hby d9_18) rfl ((if0 _ _).trans (feq q3).2) (by decide) (by decide) ?_
            show Steps p.tables e below (T35.setTop (mkF m 27 #[.val (.ref asx), .val (.int (0 : Int32)), .val (.int ((((0 : Int32) + (1 : Int32)) + (1 : Int32)) + (1 : Int32)))] [])) _
            refine XS.iloadN X35.here hx rfl (hb hby d9_27) rfl ?_
            show Steps p.tables e below (T35.setTop (mkF m 28 #[.val (.ref asx), .val (.int (0 : Int32)), .val (.int ((((0 : Int32) + (1 : Int32)) + (1 : Int32)) + (1 : Int32)))] [(.int ((((0 : Int32) + (1 : Int32)) + (1 : Int32)) + (1 : Int32)))])) _
            exact kt)
          obtain ⟨fs, hr, hrun, hended, hW, hsame⟩ := X35.leave (v := (some (.int ((((0 : Int32) + (1 : Int32)) + (1 : Int32)) + (1 : Int32))))) (fun h => by rw [Bd.returns] at h; cases h)
          refine ⟨_, _, st42 _ ?_, hrun, hended, _, _, rfl, ?_, ⟨_, rfl⟩, hW, hsame.mono (by decide) (by decide)⟩
          · exact retOut X35 hx Bd.returns rfl (Or.inl ⟨rfl, Or.inl rfl, _, rfl⟩) (hb hby d9_28) hr
          · show Q_rm_fe0 Z asx at1 kb ch0 ch1 ch2 ch3 gz gf h0 n0 _ T35.heap _
            rw [eq35]
            exact ⟨by unfold own_f0 own_f1 own_f2 own_f3; rw [if_pos q0, if_pos q1, if_pos q2, if_neg q3] <;> rfl, N35, rfl⟩
      · have st43 : own_Go p e below (T26.setTop (mkF m 28 #[.val (.ref asx), .val (.int (0 : Int32)), .val (.int (((0 : Int32) + (1 : Int32)) + (1 : Int32)))] [(.int (((0 : Int32) + (1 : Int32)) + (1 : Int32)))])) (s₁.setTop (entryFrame m #[(.ref asx), (.int (0 : Int32))] 3)) := fun t kt => st27 t (by
          show Steps p.tables e below (T26.setTop (mkF m 18 #[.val (.ref asx), .val (.int (0 : Int32)), .val (.int (((0 : Int32) + (1 : Int32)) + (1 : Int32)))] [(.int (own_bl ch2))])) _
          refine XS.ifYes X26.here hx rfl (pc0 := 18) (pc' := 27) rfl (hb hby d9_18) rfl ((if0 _ _).trans (feq q2).2) (by decide) (by decide) ?_
          show Steps p.tables e below (T26.setTop (mkF m 27 #[.val (.ref asx), .val (.int (0 : Int32)), .val (.int (((0 : Int32) + (1 : Int32)) + (1 : Int32)))] [])) _
          refine XS.iloadN X26.here hx rfl (hb hby d9_27) rfl ?_
          show Steps p.tables e below (T26.setTop (mkF m 28 #[.val (.ref asx), .val (.int (0 : Int32)), .val (.int (((0 : Int32) + (1 : Int32)) + (1 : Int32)))] [(.int (((0 : Int32) + (1 : Int32)) + (1 : Int32)))])) _
          exact kt)
        obtain ⟨fs, hr, hrun, hended, hW, hsame⟩ := X26.leave (v := (some (.int (((0 : Int32) + (1 : Int32)) + (1 : Int32))))) (fun h => by rw [Bd.returns] at h; cases h)
        refine ⟨_, _, st43 _ ?_, hrun, hended, _, _, rfl, ?_, ⟨_, rfl⟩, hW, hsame.mono (by decide) (by decide)⟩
        · exact retOut X26 hx Bd.returns rfl (Or.inl ⟨rfl, Or.inl rfl, _, rfl⟩) (hb hby d9_28) hr
        · show Q_rm_fe0 Z asx at1 kb ch0 ch1 ch2 ch3 gz gf h0 n0 _ T26.heap _
          rw [eq26]
          exact ⟨by unfold own_f0 own_f1 own_f2; rw [if_pos q0, if_pos q1, if_neg q2] <;> rfl, N26, rfl⟩
    · have st44 : own_Go p e below (T17.setTop (mkF m 28 #[.val (.ref asx), .val (.int (0 : Int32)), .val (.int ((0 : Int32) + (1 : Int32)))] [(.int ((0 : Int32) + (1 : Int32)))])) (s₁.setTop (entryFrame m #[(.ref asx), (.int (0 : Int32))] 3)) := fun t kt => st18 t (by
        show Steps p.tables e below (T17.setTop (mkF m 18 #[.val (.ref asx), .val (.int (0 : Int32)), .val (.int ((0 : Int32) + (1 : Int32)))] [(.int (own_bl ch1))])) _
        refine XS.ifYes X17.here hx rfl (pc0 := 18) (pc' := 27) rfl (hb hby d9_18) rfl ((if0 _ _).trans (feq q1).2) (by decide) (by decide) ?_
        show Steps p.tables e below (T17.setTop (mkF m 27 #[.val (.ref asx), .val (.int (0 : Int32)), .val (.int ((0 : Int32) + (1 : Int32)))] [])) _
        refine XS.iloadN X17.here hx rfl (hb hby d9_27) rfl ?_
        show Steps p.tables e below (T17.setTop (mkF m 28 #[.val (.ref asx), .val (.int (0 : Int32)), .val (.int ((0 : Int32) + (1 : Int32)))] [(.int ((0 : Int32) + (1 : Int32)))])) _
        exact kt)
      obtain ⟨fs, hr, hrun, hended, hW, hsame⟩ := X17.leave (v := (some (.int ((0 : Int32) + (1 : Int32))))) (fun h => by rw [Bd.returns] at h; cases h)
      refine ⟨_, _, st44 _ ?_, hrun, hended, _, _, rfl, ?_, ⟨_, rfl⟩, hW, hsame.mono (by decide) (by decide)⟩
      · exact retOut X17 hx Bd.returns rfl (Or.inl ⟨rfl, Or.inl rfl, _, rfl⟩) (hb hby d9_28) hr
      · show Q_rm_fe0 Z asx at1 kb ch0 ch1 ch2 ch3 gz gf h0 n0 _ T17.heap _
        rw [eq17]
        exact ⟨by unfold own_f0 own_f1; rw [if_pos q0, if_neg q1] <;> rfl, N17, rfl⟩
  · have st45 : own_Go p e below (T8.setTop (mkF m 28 #[.val (.ref asx), .val (.int (0 : Int32)), .val (.int (0 : Int32))] [(.int (0 : Int32))])) (s₁.setTop (entryFrame m #[(.ref asx), (.int (0 : Int32))] 3)) := fun t kt => st9 t (by
      show Steps p.tables e below (T8.setTop (mkF m 18 #[.val (.ref asx), .val (.int (0 : Int32)), .val (.int (0 : Int32))] [(.int (own_bl ch0))])) _
      refine XS.ifYes X8.here hx rfl (pc0 := 18) (pc' := 27) rfl (hb hby d9_18) rfl ((if0 _ _).trans (feq q0).2) (by decide) (by decide) ?_
      show Steps p.tables e below (T8.setTop (mkF m 27 #[.val (.ref asx), .val (.int (0 : Int32)), .val (.int (0 : Int32))] [])) _
      refine XS.iloadN X8.here hx rfl (hb hby d9_27) rfl ?_
      show Steps p.tables e below (T8.setTop (mkF m 28 #[.val (.ref asx), .val (.int (0 : Int32)), .val (.int (0 : Int32))] [(.int (0 : Int32))])) _
      exact kt)
    obtain ⟨fs, hr, hrun, hended, hW, hsame⟩ := X8.leave (v := (some (.int (0 : Int32)))) (fun h => by rw [Bd.returns] at h; cases h)
    refine ⟨_, _, st45 _ ?_, hrun, hended, _, _, rfl, ?_, ⟨_, rfl⟩, hW, hsame.mono (by decide) (by decide)⟩
    · exact retOut X8 hx Bd.returns rfl (Or.inl ⟨rfl, Or.inl rfl, _, rfl⟩) (hb hby d9_28) hr
    · show Q_rm_fe0 Z asx at1 kb ch0 ch1 ch2 ch3 gz gf h0 n0 _ T8.heap _
      rw [eq8]
      exact ⟨by unfold own_f0; rw [if_neg q0] <;> rfl, N8, rfl⟩
def Q_rm_fe1 (Z : State) (asx : Addr) (at1 : Addr) (kb : ClassId) (ch0 : Int32) (ch1 : Int32) (ch2 : Int32) (ch3 : Int32) (gz : Int32) (gf : Value) (h0 : Heap) (n0 : Nat) (v : Option Value) (h : Heap) (L : List Loc) : Prop := v = some (.int (own_f1 ch1 ch2 ch3)) ∧ Fr n0 L ∧ h = h0
set_option maxRecDepth 65536 in
set_option maxHeartbeats 40000000 in
theorem rm_fe1 (l : Launch) (Z : State) (a0 : Array Value) (hw : ∀ d ∈ tables_1, d.before a0 Z = true) (ws : List Jvm.Cond) (asx : Addr) (at1 : Addr) (kb : ClassId) (ch0 : Int32) (ch1 : Int32) (ch2 : Int32) (ch3 : Int32) (gz : Int32) (gf : Value) (h0 : Heap) (n0 : Nat) (Z0 : n0 ≤ h0.size) (E_as : Exa Z h0 asx "java/lang/String") (F_va : Fld Z h0 asx "java/lang/String" "value" "[B" (.ref at1)) (F_co : Fld Z h0 asx "java/lang/String" "coder" "B" (.int 0)) (V_at : Arv Z h0 at1 kb .byte (Int32.ofNat 4) ((([ch0, ch1, ch2, ch3] : List Int32).map (fun c => c.toInt8.toInt32)).map Value.int) (.int 0)) (hp : ∀ c ∈ ([ch0, ch1, ch2, ch3] : List Int32), ¬ c < 0 ∧ ¬ (255 : Int32) < c) (O2 : Sta Z Z.heap "java/lang/String" "COMPACT_STRINGS" "Z" (.int gz)) (P5 : ¬ gz = 0) (O4 : Sta Z Z.heap "jdk/internal/util/Preconditions" "SIOOBE_FORMATTER" "Ljava/util/function/BiFunction;" gf) (rG : gf.isRef = true) (X00 : Old Z n0 h0) :
    MetFree l (⟨"com/example/datumbridge/datumbridge/cli/InputLines", "fieldEnd", "(Ljava/lang/String;I)I"⟩ : MethodName) (head1 (Jvm.Cond.code (⟨"com/example/datumbridge/datumbridge/cli/InputLines", "fieldEnd", "(Ljava/lang/String;I)I"⟩ : MethodName) prog_9_method_5_code 3 (some .int) :: ws) ({ frames := 4, cells := 0, slots := 0, locals := 53 } : Room)) (fun a U => a = #[(.ref asx), (.int (1 : Int32))] ∧ Z.Warmed39 U.vm ∧ U.heap = h0) (fun _ _ _ _ _ => True) (fun _ U o U' => ∃ v L, o = .returned v ∧ Q_rm_fe1 Z asx at1 kb ch0 ch1 ch2 ch3 gz gf h0 n0 v U'.heap L ∧ FrameEnd U o U' L ({ frames := 4, cells := 0, slots := 0, locals := 53 } : Room).cells ({ frames := 4, cells := 0, slots := 0, locals := 53 } : Room).slots) := by
  refine MetFree.of_bodySF (plainFor_of_name own_pn1) hisR ?_
  intro p e s m args below meth c s₁ Bd hml0 hP hK
  obtain ⟨rfl, hZ, hh⟩ := hP
  have hx := Bd.exec
  have hby := Bd.bytes
  have hml : c.maxLocals = 3 := hml0
  have hown : s.vm.findClass "com/example/datumbridge/datumbridge/cli/InputLines" = some m.cls := findClass_of_methodNamed Bd.named
  have hnm := (name_of_methodNamed Bd.named Bd.method).1
  have X0 : Stand p l e ({ frames := 4, cells := 0, slots := 0, locals := 53 } : Room) s m #[(.ref asx), (.int (1 : Int32))] below meth c s₁ [] 0 0 := Stand.of_body Bd
  have e0 : s₁.heap = h0 := by rw [← hh, Bd.state]; rfl
  have N0 := Fr.nil n0
  have st0 : own_Go p e below (s₁.setTop (mkF m 0 #[.val (.ref asx), .val (.int (1 : Int32)), .unset] [])) (s₁.setTop (entryFrame m #[(.ref asx), (.int (1 : Int32))] 3)) := fun t k => castTop (own_ef9_RI m asx (1 : Int32)) k
  have hln : ∀ d ∈ StrChars.Road.wordsLen, d.before a0 Z = true := fun d hd => hw d ((by decide +kernel : ∀ d ∈ StrChars.Road.wordsLen, d ∈ tables_1) d hd)
  have hch : ∀ d ∈ StrChars.Road.wordsChN, d.before a0 Z = true := fun d hd => hw d ((by decide +kernel : ∀ d ∈ StrChars.Road.wordsChN, d ∈ tables_1) d hd)
  have hcd : StrChars.Road.CodA ([ch0, ch1, ch2, ch3] : List Int32) 0 (Int32.ofNat 4) ((([ch0, ch1, ch2, ch3] : List Int32).map (fun c => c.toInt8.toInt32)).map Value.int) := StrChars.Road.codOf (n := 4) rfl (fun x hx => (hp x hx).2)
  have hbd := own_up _ hp
  have st1 : own_Go p e below (s₁.setTop (mkF m 4 #[.val (.ref asx), .val (.int (1 : Int32)), .val (.int (1 : Int32))] [(.ref asx), (.int (1 : Int32))])) (s₁.setTop (entryFrame m #[(.ref asx), (.int (1 : Int32))] 3)) := fun t kt => st0 t (by
    show Steps p.tables e below (s₁.setTop (mkF m 0 #[.val (.ref asx), .val (.int (1 : Int32)), .unset] [])) _
    refine XS.iloadN X0.here hx rfl (hb hby d9_0) rfl ?_
    show Steps p.tables e below (s₁.setTop (mkF m 1 #[.val (.ref asx), .val (.int (1 : Int32)), .unset] [(.int (1 : Int32))])) _
    refine XS.istoreN X0.here hx rfl (hb hby d9_1) rfl (l' := #[.val (.ref asx), .val (.int (1 : Int32)), .val (.int (1 : Int32))]) rfl ?_
    show Steps p.tables e below (s₁.setTop (mkF m 2 #[.val (.ref asx), .val (.int (1 : Int32)), .val (.int (1 : Int32))] [])) _
    refine XS.iloadN X0.here hx rfl (hb hby d9_2) rfl ?_
    show Steps p.tables e below (s₁.setTop (mkF m 3 #[.val (.ref asx), .val (.int (1 : Int32)), .val (.int (1 : Int32))] [(.int (1 : Int32))])) _
    refine XS.aloadN X0.here hx rfl (hb hby d9_3) rfl rfl ?_
    show Steps p.tables e below (s₁.setTop (mkF m 4 #[.val (.ref asx), .val (.int (1 : Int32)), .val (.int (1 : Int32))] [(.ref asx), (.int (1 : Int32))])) _
    exact kt)
  obtain ⟨cq2, kq2, q2a, q2b, q2c⟩ := isOf hZ e0 E_as
  obtain ⟨_, _, ⟨T2, L2, k2, n2⟩, -, X2, ⟨Lc2, hQ2, l2, y2, z2⟩, ls2⟩ := X0.virtualBack hx (y := (⟨"java/lang/String", "length", "()I"⟩ : MethodName)) (z := (⟨"java/lang/String", "length", "()I"⟩ : MethodName)) hown (mvT hZ (hw _ (List.mem_of_getElem? (i := 42) rfl))) (mvT hZ (hw _ (List.mem_of_getElem? (i := 43) rfl))) (notFace_of_selects (args := #[]) (mvT hZ (hw _ (List.mem_of_getElem? (i := 45) rfl)))) (mvT hZ (hw _ (List.mem_of_getElem? (i := 45) rfl))) (mvT hZ (hw _ (List.mem_of_getElem? (i := 44) rfl))) (by decide) (StrChars.Road.lenW (W := 1) hZ hln (kI := 4) (hw _ (List.mem_of_getElem? (i := 6) rfl)) E_as F_va F_co V_at hcd hbd (O2.ext X00.2) P5 (Nat.le_of_ble_eq_true rfl : ([ch0, ch1, ch2, ch3] : List Int32).length ≤ 4000) (by decide) (by decide)) q2a q2c (g := (mkF m 4 #[.val (.ref asx), .val (.int (1 : Int32)), .val (.int (1 : Int32))] [(.ref asx), (.int (1 : Int32))])) rfl (by rw [hml]; rfl) (Steps.refl _) (argsL := []) (rest := [(.int (1 : Int32))]) (lenOf own_pd0 rfl) rfl (by show 2 * 0 + _ ≤ _; exact Nat.le_of_eq rfl) (hb hby d9_4) (fun _ _ => ⟨rfl, e0, (by decide : 0 + 0 ≤ _), (by decide : 0 + 0 ≤ _)⟩)
  dsimp only [Pt.U, Pt.locs, Pt.cells, Pt.slots] at X2 l2 y2 z2 ls2 hQ2
  subst l2 y2 z2
  obtain ⟨rfl, rfl, eq2⟩ := hQ2
  have N2 := Fr.app N0 (Fr.nil n0)
  have st3 : own_Go p e below (T2.setTop (mkF m 7 #[.val (.ref asx), .val (.int (1 : Int32)), .val (.int (1 : Int32))] [(.int (4 : Int32)), (.int (1 : Int32))])) (s₁.setTop (entryFrame m #[(.ref asx), (.int (1 : Int32))] 3)) := fun t kt => st1 t (ls2.trans kt)
  have hc4 : (1 : Int32) < (4 : Int32) := by decide
  have st5 : own_Go p e below (T2.setTop (mkF m 12 #[.val (.ref asx), .val (.int (1 : Int32)), .val (.int (1 : Int32))] [(.int (1 : Int32)), (.ref asx)])) (s₁.setTop (entryFrame m #[(.ref asx), (.int (1 : Int32))] 3)) := fun t kt => st3 t (by
    show Steps p.tables e below (T2.setTop (mkF m 7 #[.val (.ref asx), .val (.int (1 : Int32)), .val (.int (1 : Int32))] [(.int (4 : Int32)), (.int (1 : Int32))])) _
    refine XS.icmpNo X2.here hx rfl (hb hby d9_7) rfl (tlt hc4).2.1 ?_
    show Steps p.tables e below (T2.setTop (mkF m 10 #[.val (.ref asx), .val (.int (1 : Int32)), .val (.int (1 : Int32))] [])) _
    refine XS.aloadN X2.here hx rfl (hb hby d9_10) rfl rfl ?_
    show Steps p.tables e below (T2.setTop (mkF m 11 #[.val (.ref asx), .val (.int (1 : Int32)), .val (.int (1 : Int32))] [(.ref asx)])) _
    refine XS.iloadN X2.here hx rfl (hb hby d9_11) rfl ?_
    show Steps p.tables e below (T2.setTop (mkF m 12 #[.val (.ref asx), .val (.int (1 : Int32)), .val (.int (1 : Int32))] [(.int (1 : Int32)), (.ref asx)])) _
    exact kt)
  obtain ⟨cq6, kq6, q6a, q6b, q6c⟩ := isOf hZ eq2 E_as
  obtain ⟨_, _, ⟨T6, L6, k6, n6⟩, -, X6, ⟨Lc6, hQ6, l6, y6, z6⟩, ls6⟩ := X2.virtualBack hx (y := (⟨"java/lang/String", "charAt", "(I)C"⟩ : MethodName)) (z := (⟨"java/lang/String", "charAt", "(I)C"⟩ : MethodName)) hown (mvT hZ (hw _ (List.mem_of_getElem? (i := 52) rfl))) (mvT hZ (hw _ (List.mem_of_getElem? (i := 53) rfl))) (notFace_of_selects (args := #[]) (mvT hZ (hw _ (List.mem_of_getElem? (i := 55) rfl)))) (mvT hZ (hw _ (List.mem_of_getElem? (i := 55) rfl))) (mvT hZ (hw _ (List.mem_of_getElem? (i := 54) rfl))) (by decide) (StrChars.Road.chN (W := 0) hZ hch (kI := 4) (hw _ (List.mem_of_getElem? (i := 6) rfl)) E_as F_va F_co V_at hcd hbd (O2.ext X00.2) P5 (O4.ext X00.2) rG (Nat.le_of_ble_eq_true rfl : ([ch0, ch1, ch2, ch3] : List Int32).length ≤ 4000) (i := 1) (Nat.le_of_ble_eq_true rfl : 1 < ([ch0, ch1, ch2, ch3] : List Int32).length) (j := 1) rfl (by decide) (by decide)) q6a q6c (g := (mkF m 12 #[.val (.ref asx), .val (.int (1 : Int32)), .val (.int (1 : Int32))] [(.int (1 : Int32)), (.ref asx)])) rfl (by rw [hml]; rfl) (Steps.refl _) (argsL := [(.int (1 : Int32))]) (rest := []) (lenOf own_pd1 rfl) rfl (by show 2 * 0 + _ ≤ _; exact Nat.le_of_eq rfl) (hb hby d9_12) (fun _ _ => ⟨rfl, eq2, (by decide : 0 + 0 ≤ _), (by decide : 0 + 0 ≤ _)⟩)
  dsimp only [Pt.U, Pt.locs, Pt.cells, Pt.slots] at X6 l6 y6 z6 ls6 hQ6
  subst l6 y6 z6
  obtain ⟨rfl, rfl, eq6⟩ := hQ6
  have N6 := Fr.app N2 (Fr.nil n0)
  have st7 : own_Go p e below (T6.setTop (mkF m 15 #[.val (.ref asx), .val (.int (1 : Int32)), .val (.int (1 : Int32))] [(.int ch1)])) (s₁.setTop (entryFrame m #[(.ref asx), (.int (1 : Int32))] 3)) := fun t kt => st5 t (ls6.trans kt)
  obtain ⟨_, _, ⟨T8, L8, k8, n8⟩, -, X8, ⟨Lc8, hQ8, l8, y8, z8⟩, ls8⟩ := Jvm.LawKit.callS X6 hx (y := (⟨"com/example/datumbridge/datumbridge/cli/InputLines", "isBlank", "(C)Z"⟩ : MethodName)) hown (mvT hZ (hw _ (List.mem_of_getElem? (i := 74) rfl))) (mvT hZ (hw _ (List.mem_of_getElem? (i := 75) rfl))) (mvT hZ (hw _ (List.mem_of_getElem? (i := 40) rfl))) (mvT hZ (hw _ (List.mem_of_getElem? (i := 76) rfl))) (by decide) (backOf (W := 0) (rm_isBlank l Z a0 hw [] ch1 h0 n0 Z0) hZ (hw _ (List.mem_of_getElem? (i := 76) rfl)) (hw _ (List.mem_of_getElem? (i := 40) rfl)) (by decide) (by decide)) (g := (mkF m 15 #[.val (.ref asx), .val (.int (1 : Int32)), .val (.int (1 : Int32))] [(.int ch1)])) rfl (by rw [hml]; rfl) (argsL := [(.int ch1)]) (rest := []) (lenOf own_pd2 rfl) rfl (by show 2 * 0 + _ ≤ _; exact Nat.le_of_eq rfl) (hb hby d9_15) (fun _ _ => ⟨rfl, eq6, (by decide : 0 + 0 ≤ _), (by decide : 0 + 0 ≤ _)⟩)
  dsimp only [Pt.U, Pt.locs, Pt.cells, Pt.slots] at X8 l8 y8 z8 ls8 hQ8
  subst l8 y8 z8
  obtain ⟨rfl, Nq8, eq8⟩ := hQ8
  have N8 := Fr.app N6 Nq8
  have st9 : own_Go p e below (T8.setTop (mkF m 18 #[.val (.ref asx), .val (.int (1 : Int32)), .val (.int (1 : Int32))] [(.int (own_bl ch1))])) (s₁.setTop (entryFrame m #[(.ref asx), (.int (1 : Int32))] 3)) := fun t kt => st7 t (ls8 t kt)
  by_cases q1 : (own_bl ch1) = (0 : Int32)
  · have st10 : own_Go p e below (T8.setTop (mkF m 4 #[.val (.ref asx), .val (.int (1 : Int32)), .val (.int ((1 : Int32) + (1 : Int32)))] [(.ref asx), (.int ((1 : Int32) + (1 : Int32)))])) (s₁.setTop (entryFrame m #[(.ref asx), (.int (1 : Int32))] 3)) := fun t kt => st9 t (by
      show Steps p.tables e below (T8.setTop (mkF m 18 #[.val (.ref asx), .val (.int (1 : Int32)), .val (.int (1 : Int32))] [(.int (own_bl ch1))])) _
      refine XS.ifNo X8.here hx rfl (hb hby d9_18) rfl ((if0 _ _).trans (teq q1).2) ?_
      show Steps p.tables e below (T8.setTop (mkF m 21 #[.val (.ref asx), .val (.int (1 : Int32)), .val (.int (1 : Int32))] [])) _
      refine XS.iinc X8.here hx rfl (hb hby d9_21) rfl (l' := #[.val (.ref asx), .val (.int (1 : Int32)), .val (.int ((1 : Int32) + (1 : Int32)))]) rfl ?_
      show Steps p.tables e below (T8.setTop (mkF m 24 #[.val (.ref asx), .val (.int (1 : Int32)), .val (.int ((1 : Int32) + (1 : Int32)))] [])) _
      refine XS.goto X8.here hx rfl (pc0 := 24) (pc' := 2) rfl (hb hby d9_24) (by decide) (by decide) ?_
      show Steps p.tables e below (T8.setTop (mkF m 2 #[.val (.ref asx), .val (.int (1 : Int32)), .val (.int ((1 : Int32) + (1 : Int32)))] [])) _
      refine XS.iloadN X8.here hx rfl (hb hby d9_2) rfl ?_
      show Steps p.tables e below (T8.setTop (mkF m 3 #[.val (.ref asx), .val (.int (1 : Int32)), .val (.int ((1 : Int32) + (1 : Int32)))] [(.int ((1 : Int32) + (1 : Int32)))])) _
      refine XS.aloadN X8.here hx rfl (hb hby d9_3) rfl rfl ?_
      show Steps p.tables e below (T8.setTop (mkF m 4 #[.val (.ref asx), .val (.int (1 : Int32)), .val (.int ((1 : Int32) + (1 : Int32)))] [(.ref asx), (.int ((1 : Int32) + (1 : Int32)))])) _
      exact kt)
    obtain ⟨cq11, kq11, q11a, q11b, q11c⟩ := isOf hZ eq8 E_as
    obtain ⟨_, _, ⟨T11, L11, k11, n11⟩, -, X11, ⟨Lc11, hQ11, l11, y11, z11⟩, ls11⟩ := X8.virtualBack hx (y := (⟨"java/lang/String", "length", "()I"⟩ : MethodName)) (z := (⟨"java/lang/String", "length", "()I"⟩ : MethodName)) hown (mvT hZ (hw _ (List.mem_of_getElem? (i := 42) rfl))) (mvT hZ (hw _ (List.mem_of_getElem? (i := 43) rfl))) (notFace_of_selects (args := #[]) (mvT hZ (hw _ (List.mem_of_getElem? (i := 45) rfl)))) (mvT hZ (hw _ (List.mem_of_getElem? (i := 45) rfl))) (mvT hZ (hw _ (List.mem_of_getElem? (i := 44) rfl))) (by decide) (StrChars.Road.lenW (W := 1) hZ hln (kI := 4) (hw _ (List.mem_of_getElem? (i := 6) rfl)) E_as F_va F_co V_at hcd hbd (O2.ext X00.2) P5 (Nat.le_of_ble_eq_true rfl : ([ch0, ch1, ch2, ch3] : List Int32).length ≤ 4000) (by decide) (by decide)) q11a q11c (g := (mkF m 4 #[.val (.ref asx), .val (.int (1 : Int32)), .val (.int ((1 : Int32) + (1 : Int32)))] [(.ref asx), (.int ((1 : Int32) + (1 : Int32)))])) rfl (by rw [hml]; rfl) (Steps.refl _) (argsL := []) (rest := [(.int ((1 : Int32) + (1 : Int32)))]) (lenOf own_pd0 rfl) rfl (by show 2 * 0 + _ ≤ _; exact Nat.le_of_eq rfl) (hb hby d9_4) (fun _ _ => ⟨rfl, eq8, (by decide : 0 + 0 ≤ _), (by decide : 0 + 0 ≤ _)⟩)
    dsimp only [Pt.U, Pt.locs, Pt.cells, Pt.slots] at X11 l11 y11 z11 ls11 hQ11
    subst l11 y11 z11
    obtain ⟨rfl, rfl, eq11⟩ := hQ11
    have N11 := Fr.app N8 (Fr.nil n0)
    have st12 : own_Go p e below (T11.setTop (mkF m 7 #[.val (.ref asx), .val (.int (1 : Int32)), .val (.int ((1 : Int32) + (1 : Int32)))] [(.int (4 : Int32)), (.int ((1 : Int32) + (1 : Int32)))])) (s₁.setTop (entryFrame m #[(.ref asx), (.int (1 : Int32))] 3)) := fun t kt => st10 t (ls11.trans kt)
    have hc13 : ((1 : Int32) + (1 : Int32)) < (4 : Int32) := by decide
    have st14 : own_Go p e below (T11.setTop (mkF m 12 #[.val (.ref asx), .val (.int (1 : Int32)), .val (.int ((1 : Int32) + (1 : Int32)))] [(.int ((1 : Int32) + (1 : Int32))), (.ref asx)])) (s₁.setTop (entryFrame m #[(.ref asx), (.int (1 : Int32))] 3)) := fun t kt => st12 t (by
      show Steps p.tables e below (T11.setTop (mkF m 7 #[.val (.ref asx), .val (.int (1 : Int32)), .val (.int ((1 : Int32) + (1 : Int32)))] [(.int (4 : Int32)), (.int ((1 : Int32) + (1 : Int32)))])) _
      refine XS.icmpNo X11.here hx rfl (hb hby d9_7) rfl (tlt hc13).2.1 ?_
      show Steps p.tables e below (T11.setTop (mkF m 10 #[.val (.ref asx), .val (.int (1 : Int32)), .val (.int ((1 : Int32) + (1 : Int32)))] [])) _
      refine XS.aloadN X11.here hx rfl (hb hby d9_10) rfl rfl ?_
      show Steps p.tables e below (T11.setTop (mkF m 11 #[.val (.ref asx), .val (.int (1 : Int32)), .val (.int ((1 : Int32) + (1 : Int32)))] [(.ref asx)])) _
      refine XS.iloadN X11.here hx rfl (hb hby d9_11) rfl ?_
      show Steps p.tables e below (T11.setTop (mkF m 12 #[.val (.ref asx), .val (.int (1 : Int32)), .val (.int ((1 : Int32) + (1 : Int32)))] [(.int ((1 : Int32) + (1 : Int32))), (.ref asx)])) _
      exact kt)
    obtain ⟨cq15, kq15, q15a, q15b, q15c⟩ := isOf hZ eq11 E_as
    obtain ⟨_, _, ⟨T15, L15, k15, n15⟩, -, X15, ⟨Lc15, hQ15, l15, y15, z15⟩, ls15⟩ := X11.virtualBack hx (y := (⟨"java/lang/String", "charAt", "(I)C"⟩ : MethodName)) (z := (⟨"java/lang/String", "charAt", "(I)C"⟩ : MethodName)) hown (mvT hZ (hw _ (List.mem_of_getElem? (i := 52) rfl))) (mvT hZ (hw _ (List.mem_of_getElem? (i := 53) rfl))) (notFace_of_selects (args := #[]) (mvT hZ (hw _ (List.mem_of_getElem? (i := 55) rfl)))) (mvT hZ (hw _ (List.mem_of_getElem? (i := 55) rfl))) (mvT hZ (hw _ (List.mem_of_getElem? (i := 54) rfl))) (by decide) (StrChars.Road.chN (W := 0) hZ hch (kI := 4) (hw _ (List.mem_of_getElem? (i := 6) rfl)) E_as F_va F_co V_at hcd hbd (O2.ext X00.2) P5 (O4.ext X00.2) rG (Nat.le_of_ble_eq_true rfl : ([ch0, ch1, ch2, ch3] : List Int32).length ≤ 4000) (i := 2) (Nat.le_of_ble_eq_true rfl : 2 < ([ch0, ch1, ch2, ch3] : List Int32).length) (j := 2) rfl (by decide) (by decide)) q15a q15c (g := (mkF m 12 #[.val (.ref asx), .val (.int (1 : Int32)), .val (.int ((1 : Int32) + (1 : Int32)))] [(.int ((1 : Int32) + (1 : Int32))), (.ref asx)])) rfl (by rw [hml]; rfl) (Steps.refl _) (argsL := [(.int ((1 : Int32) + (1 : Int32)))]) (rest := []) (lenOf own_pd1 rfl) rfl (by show 2 * 0 + _ ≤ _; exact Nat.le_of_eq rfl) (hb hby d9_12) (fun _ _ => ⟨rfl, eq11, (by decide : 0 + 0 ≤ _), (by decide : 0 + 0 ≤ _)⟩)
    dsimp only [Pt.U, Pt.locs, Pt.cells, Pt.slots] at X15 l15 y15 z15 ls15 hQ15
    subst l15 y15 z15
    obtain ⟨rfl, rfl, eq15⟩ := hQ15
    have N15 := Fr.app N11 (Fr.nil n0)
    have st16 : own_Go p e below (T15.setTop (mkF m 15 #[.val (.ref asx), .val (.int (1 : Int32)), .val (.int ((1 : Int32) + (1 : Int32)))] [(.int ch2)])) (s₁.setTop (entryFrame m #[(.ref asx), (.int (1 : Int32))] 3)) := fun t kt => st14 t (ls15.trans kt)
    obtain ⟨_, _, ⟨T17, L17, k17, n17⟩, -, X17, ⟨Lc17, hQ17, l17, y17, z17⟩, ls17⟩ := Jvm.LawKit.callS X15 hx (y := (⟨"com/example/datumbridge/datumbridge/cli/InputLines", "isBlank", "(C)Z"⟩ : MethodName)) hown (mvT hZ (hw _ (List.mem_of_getElem? (i := 74) rfl))) (mvT hZ (hw _ (List.mem_of_getElem? (i := 75) rfl))) (mvT hZ (hw _ (List.mem_of_getElem? (i := 40) rfl))) (mvT hZ (hw _ (List.mem_of_getElem? (i := 76) rfl))) (by decide) (backOf (W := 0) (rm_isBlank l Z a0 hw [] ch2 h0 n0 Z0) hZ (hw _ (List.mem_of_getElem? (i := 76) rfl)) (hw _ (List.mem_of_getElem? (i := 40) rfl)) (by decide) (by decide)) (g := (mkF m 15 #[.val (.ref asx), .val (.int (1 : Int32)), .val (.int ((1 : Int32) + (1 : Int32)))] [(.int ch2)])) rfl (by rw [hml]; rfl) (argsL := [(.int ch2)]) (rest := []) (lenOf own_pd2 rfl) rfl (by show 2 * 0 + _ ≤ _; exact Nat.le_of_eq rfl) (hb hby d9_15) (fun _ _ => ⟨rfl, eq15, (by decide : 0 + 0 ≤ _), (by decide : 0 + 0 ≤ _)⟩)
    dsimp only [Pt.U, Pt.locs, Pt.cells, Pt.slots] at X17 l17 y17 z17 ls17 hQ17
    subst l17 y17 z17
    obtain ⟨rfl, Nq17, eq17⟩ := hQ17
    have N17 := Fr.app N15 Nq17
    have st18 : own_Go p e below (T17.setTop (mkF m 18 #[.val (.ref asx), .val (.int (1 : Int32)), .val (.int ((1 : Int32) + (1 : Int32)))] [(.int (own_bl ch2))])) (s₁.setTop (entryFrame m #[(.ref asx), (.int (1 : Int32))] 3)) := fun t kt => st16 t (ls17 t kt)
    by_cases q2 : (own_bl ch2) = (0 : Int32)
    · have st19 : own_Go p e below (T17.setTop (mkF m 4 #[.val (.ref asx), .val (.int (1 : Int32)), .val (.int (((1 : Int32) + (1 : Int32)) + (1 : Int32)))] [(.ref asx), (.int (((1 : Int32) + (1 : Int32)) + (1 : Int32)))])) (s₁.setTop (entryFrame m #[(.ref asx), (.int (1 : Int32))] 3)) := fun t kt => st18 t (by
        show Steps p.tables e below (T17.setTop (mkF m 18 #[.val (.ref asx), .val (.int (1 : Int32)), .val (.int ((1 : Int32) + (1 : Int32)))] [(.int (own_bl ch2))])) _
        refine XS.ifNo X17.here hx rfl (hb hby d9_18) rfl ((if0 _ _).trans (teq q2).2) ?_
        show Steps p.tables e below (T17.setTop (mkF m 21 #[.val (.ref asx), .val (.int (1 : Int32)), .val (.int ((1 : Int32) + (1 : Int32)))] [])) _
        refine XS.iinc X17.here hx rfl (hb hby d9_21) rfl (l' := #[.val (.ref asx), .val (.int (1 : Int32)), .val (.int (((1 : Int32) + (1 : Int32)) + (1 : Int32)))]) rfl ?_
        show Steps p.tables e below (T17.setTop (mkF m 24 #[.val (.ref asx), .val (.int (1 : Int32)), .val (.int (((1 : Int32) + (1 : Int32)) + (1 : Int32)))] [])) _
        refine XS.goto X17.here hx rfl (pc0 := 24) (pc' := 2) rfl (hb hby d9_24) (by decide) (by decide) ?_
        show Steps p.tables e below (T17.setTop (mkF m 2 #[.val (.ref asx), .val (.int (1 : Int32)), .val (.int (((1 : Int32) + (1 : Int32)) + (1 : Int32)))] [])) _
        refine XS.iloadN X17.here hx rfl (hb hby d9_2) rfl ?_
        show Steps p.tables e below (T17.setTop (mkF m 3 #[.val (.ref asx), .val (.int (1 : Int32)), .val (.int (((1 : Int32) + (1 : Int32)) + (1 : Int32)))] [(.int (((1 : Int32) + (1 : Int32)) + (1 : Int32)))])) _
        refine XS.aloadN X17.here hx rfl (hb hby d9_3) rfl rfl ?_
        show Steps p.tables e below (T17.setTop (mkF m 4 #[.val (.ref asx), .val (.int (1 : Int32)), .val (.int (((1 : Int32) + (1 : Int32)) + (1 : Int32)))] [(.ref asx), (.int (((1 : Int32) + (1 : Int32)) + (1 : Int32)))])) _
        exact kt)
      obtain ⟨cq20, kq20, q20a, q20b, q20c⟩ := isOf hZ eq17 E_as
      obtain ⟨_, _, ⟨T20, L20, k20, n20⟩, -, X20, ⟨Lc20, hQ20, l20, y20, z20⟩, ls20⟩ := X17.virtualBack hx (y := (⟨"java/lang/String", "length", "()I"⟩ : MethodName)) (z := (⟨"java/lang/String", "length", "()I"⟩ : MethodName)) hown (mvT hZ (hw _ (List.mem_of_getElem? (i := 42) rfl))) (mvT hZ (hw _ (List.mem_of_getElem? (i := 43) rfl))) (notFace_of_selects (args := #[]) (mvT hZ (hw _ (List.mem_of_getElem? (i := 45) rfl)))) (mvT hZ (hw _ (List.mem_of_getElem? (i := 45) rfl))) (mvT hZ (hw _ (List.mem_of_getElem? (i := 44) rfl))) (by decide) (StrChars.Road.lenW (W := 1) hZ hln (kI := 4) (hw _ (List.mem_of_getElem? (i := 6) rfl)) E_as F_va F_co V_at hcd hbd (O2.ext X00.2) P5 (Nat.le_of_ble_eq_true rfl : ([ch0, ch1, ch2, ch3] : List Int32).length ≤ 4000) (by decide) (by decide)) q20a q20c (g := (mkF m 4 #[.val (.ref asx), .val (.int (1 : Int32)), .val (.int (((1 : Int32) + (1 : Int32)) + (1 : Int32)))] [(.ref asx), (.int (((1 : Int32) + (1 : Int32)) + (1 : Int32)))])) rfl (by rw [hml]; rfl) (Steps.refl _) (argsL := []) (rest := [(.int (((1 : Int32) + (1 : Int32)) + (1 : Int32)))]) (lenOf own_pd0 rfl) rfl (by show 2 * 0 + _ ≤ _; exact Nat.le_of_eq rfl) (hb hby d9_4) (fun _ _ => ⟨rfl, eq17, (by decide : 0 + 0 ≤ _), (by decide : 0 + 0 ≤ _)⟩)
      dsimp only [Pt.U, Pt.locs, Pt.cells, Pt.slots] at X20 l20 y20 z20 ls20 hQ20
      subst l20 y20 z20
      obtain ⟨rfl, rfl, eq20⟩ := hQ20
      have N20 := Fr.app N17 (Fr.nil n0)
      have st21 : own_Go p e below (T20.setTop (mkF m 7 #[.val (.ref asx), .val (.int (1 : Int32)), .val (.int (((1 : Int32) + (1 : Int32)) + (1 : Int32)))] [(.int (4 : Int32)), (.int (((1 : Int32) + (1 : Int32)) + (1 : Int32)))])) (s₁.setTop (entryFrame m #[(.ref asx), (.int (1 : Int32))] 3)) := fun t kt => st19 t (ls20.trans kt)
      have hc22 : (((1 : Int32) + (1 : Int32)) + (1 : Int32)) < (4 : Int32) := by decide
      have st23 : own_Go p e below (T20.setTop (mkF m 12 #[.val (.ref asx), .val (.int (1 : Int32)), .val (.int (((1 : Int32) + (1 : Int32)) + (1 : Int32)))] [(.int (((1 : Int32) + (1 : Int32)) + (1 : Int32))), (.ref asx)])) (s₁.setTop (entryFrame m #[(.ref asx), (.int (1 : Int32))] 3)) := fun t kt => st21 t (by
        show Steps p.tables e below (T20.setTop (mkF m 7 #[.val (.ref asx), .val (.int (1 : Int32)), .val (.int (((1 : Int32) + (1 : Int32)) + (1 : Int32)))] [(.int (4 : Int32)), (.int (((1 : Int32) + (1 : Int32)) + (1 : Int32)))])) _
        refine XS.icmpNo X20.here hx rfl (hb hby d9_7) rfl (tlt hc22).2.1 ?_
        show Steps p.tables e below (T20.setTop (mkF m 10 #[.val (.ref asx), .val (.int (1 : Int32)), .val (.int (((1 : Int32) + (1 : Int32)) + (1 : Int32)))] [])) _
        refine XS.aloadN X20.here hx rfl (hb hby d9_10) rfl rfl ?_
        show Steps p.tables e below (T20.setTop (mkF m 11 #[.val (.ref asx), .val (.int (1 : Int32)), .val (.int (((1 : Int32) + (1 : Int32)) + (1 : Int32)))] [(.ref asx)])) _
        refine XS.iloadN X20.here hx rfl (hb hby d9_11) rfl ?_
        show Steps p.tables e below (T20.setTop (mkF m 12 #[.val (.ref asx), .val (.int (1 : Int32)), .val (.int (((1 : Int32) + (1 : Int32)) + (1 : Int32)))] [(.int (((1 : Int32) + (1 : Int32)) + (1 : Int32))), (.ref asx)])) _
        exact kt)
      obtain ⟨cq24, kq24, q24a, q24b, q24c⟩ := isOf hZ eq20 E_as
      obtain ⟨_, _, ⟨T24, L24, k24, n24⟩, -, X24, ⟨Lc24, hQ24, l24, y24, z24⟩, ls24⟩ := X20.virtualBack hx (y := (⟨"java/lang/String", "charAt", "(I)C"⟩ : MethodName)) (z := (⟨"java/lang/String", "charAt", "(I)C"⟩ : MethodName)) hown (mvT hZ (hw _ (List.mem_of_getElem? (i := 52) rfl))) (mvT hZ (hw _ (List.mem_of_getElem? (i := 53) rfl))) (notFace_of_selects (args := #[]) (mvT hZ (hw _ (List.mem_of_getElem? (i := 55) rfl)))) (mvT hZ (hw _ (List.mem_of_getElem? (i := 55) rfl))) (mvT hZ (hw _ (List.mem_of_getElem? (i := 54) rfl))) (by decide) (StrChars.Road.chN (W := 0) hZ hch (kI := 4) (hw _ (List.mem_of_getElem? (i := 6) rfl)) E_as F_va F_co V_at hcd hbd (O2.ext X00.2) P5 (O4.ext X00.2) rG (Nat.le_of_ble_eq_true rfl : ([ch0, ch1, ch2, ch3] : List Int32).length ≤ 4000) (i := 3) (Nat.le_of_ble_eq_true rfl : 3 < ([ch0, ch1, ch2, ch3] : List Int32).length) (j := 3) rfl (by decide) (by decide)) q24a q24c (g := (mkF m 12 #[.val (.ref asx), .val (.int (1 : Int32)), .val (.int (((1 : Int32) + (1 : Int32)) + (1 : Int32)))] [(.int (((1 : Int32) + (1 : Int32)) + (1 : Int32))), (.ref asx)])) rfl (by rw [hml]; rfl) (Steps.refl _) (argsL := [(.int (((1 : Int32) + (1 : Int32)) + (1 : Int32)))]) (rest := []) (lenOf own_pd1 rfl) rfl (by show 2 * 0 + _ ≤ _; exact Nat.le_of_eq rfl) (hb hby d9_12) (fun _ _ => ⟨rfl, eq20, (by decide : 0 + 0 ≤ _), (by decide : 0 + 0 ≤ _)⟩)
      dsimp only [Pt.U, Pt.locs, Pt.cells, Pt.slots] at X24 l24 y24 z24 ls24 hQ24
      subst l24 y24 z24
      obtain ⟨rfl, rfl, eq24⟩ := hQ24
      have N24 := Fr.app N20 (Fr.nil n0)
      have st25 : own_Go p e below (T24.setTop (mkF m 15 #[.val (.ref asx), .val (.int (1 : Int32)), .val (.int (((1 : Int32) + (1 : Int32)) + (1 : Int32)))] [(.int ch3)])) (s₁.setTop (entryFrame m #[(.ref asx), (.int (1 : Int32))] 3)) := fun t kt => st23 t (ls24.trans kt)
      obtain ⟨_, _, ⟨T26, L26, k26, n26⟩, -, X26, ⟨Lc26, hQ26, l26, y26, z26⟩, ls26⟩ := Jvm.LawKit.callS X24 hx (y := (⟨"com/example/datumbridge/datumbridge/cli/InputLines", "isBlank", "(C)Z"⟩ : MethodName)) hown (mvT hZ (hw _ (List.mem_of_getElem? (i := 74) rfl))) (mvT hZ (hw _ (List.mem_of_getElem? (i := 75) rfl))) (mvT hZ (hw _ (List.mem_of_getElem? (i := 40) rfl))) (mvT hZ (hw _ (List.mem_of_getElem? (i := 76) rfl))) (by decide) (backOf (W := 0) (rm_isBlank l Z a0 hw [] ch3 h0 n0 Z0) hZ (hw _ (List.mem_of_getElem? (i := 76) rfl)) (hw _ (List.mem_of_getElem? (i := 40) rfl)) (by decide) (by decide)) (g := (mkF m 15 #[.val (.ref asx), .val (.int (1 : Int32)), .val (.int (((1 : Int32) + (1 : Int32)) + (1 : Int32)))] [(.int ch3)])) rfl (by rw [hml]; rfl) (argsL := [(.int ch3)]) (rest := []) (lenOf own_pd2 rfl) rfl (by show 2 * 0 + _ ≤ _; exact Nat.le_of_eq rfl) (hb hby d9_15) (fun _ _ => ⟨rfl, eq24, (by decide : 0 + 0 ≤ _), (by decide : 0 + 0 ≤ _)⟩)
      dsimp only [Pt.U, Pt.locs, Pt.cells, Pt.slots] at X26 l26 y26 z26 ls26 hQ26
      subst l26 y26 z26
      obtain ⟨rfl, Nq26, eq26⟩ := hQ26
      have N26 := Fr.app N24 Nq26
      have st27 : own_Go p e below (T26.setTop (mkF m 18 #[.val (.ref asx), .val (.int (1 : Int32)), .val (.int (((1 : Int32) + (1 : Int32)) + (1 : Int32)))] [(.int (own_bl ch3))])) (s₁.setTop (entryFrame m #[(.ref asx), (.int (1 : Int32))] 3)) := fun t kt => st25 t (ls26 t kt)
      by_cases q3 : (own_bl ch3) = (0 : Int32)
      · have st28 : own_Go p e below (T26.setTop (mkF m 4 #[.val (.ref asx), .val (.int (1 : Int32)), .val (.int ((((1 : Int32) + (1 : Int32)) + (1 : Int32)) + (1 : Int32)))] [(.ref asx), (.int ((((1 : Int32) + (1 : Int32)) + (1 : Int32)) + (1 : Int32)))])) (s₁.setTop (entryFrame m #[(.ref asx), (.int (1 : Int32))] 3)) := fun t kt => st27 t (by
          show Steps p.tables e below (T26.setTop (mkF m 18 #[.val (.ref asx), .val (.int (1 : Int32)), .val (.int (((1 : Int32) + (1 : Int32)) + (1 : Int32)))] [(.int (own_bl ch3))])) _
          refine XS.ifNo X26.here hx rfl (hb hby d9_18) rfl ((if0 _ _).trans (teq q3).2) ?_
          show Steps p.tables e below (T26.setTop (mkF m 21 #[.val (.ref asx), .val (.int (1 : Int32)), .val (.int (((1 : Int32) + (1 : Int32)) + (1 : Int32)))] [])) _
          refine XS.iinc X26.here hx rfl (hb hby d9_21) rfl (l' := #[.val (.ref asx), .val (.int (1 : Int32)), .val (.int ((((1 : Int32) + (1 : Int32)) + (1 : Int32)) + (1 : Int32)))]) rfl ?_
          show Steps p.tables e below (T26.setTop (mkF m 24 #[.val (.ref asx), .val (.int (1 : Int32)), .val (.int ((((1 : Int32) + (1 : Int32)) + (1 : Int32)) + (1 : Int32)))] [])) _
          refine XS.goto X26.here hx rfl (pc0 := 24) (pc' := 2) rfl (hb hby d9_24) (by decide) (by decide) ?_
          show Steps p.tables e below (T26.setTop (mkF m 2 #[.val (.ref asx), .val (.int (1 : Int32)), .val (.int ((((1 : Int32) + (1 : Int32)) + (1 : Int32)) + (1 : Int32)))] [])) _
          refine XS.iloadN X26.here hx rfl (hb hby d9_2) rfl ?_
          show Steps p.tables e below (T26.setTop (mkF m 3 #[.val (.ref asx), .val (.int (1 : Int32)), .val (.int ((((1 : Int32) + (1 : Int32)) + (1 : Int32)) + (1 : Int32)))] [(.int ((((1 : Int32) + (1 : Int32)) + (1 : Int32)) + (1 : Int32)))])) _
          refine XS.aloadN X26.here hx rfl (hb hby d9_3) rfl rfl ?_
          show Steps p.tables e below (T26.setTop (mkF m 4 #[.val (.ref asx), .val (.int (1 : Int32)), .val (.int ((((1 : Int32) + (1 : Int32)) + (1 : Int32)) + (1 : Int32)))] [(.ref asx), (.int ((((1 : Int32) + (1 : Int32)) + (1 : Int32)) + (1 : Int32)))])) _
          exact kt)
        obtain ⟨cq29, kq29, q29a, q29b, q29c⟩ := isOf hZ eq26 E_as
        obtain ⟨_, _, ⟨T29, L29, k29, n29⟩, -, X29, ⟨Lc29, hQ29, l29, y29, z29⟩, ls29⟩ := X26.virtualBack hx (y := (⟨"java/lang/String", "length", "()I"⟩ : MethodName)) (z := (⟨"java/lang/String", "length", "()I"⟩ : MethodName)) hown (mvT hZ (hw _ (List.mem_of_getElem? (i := 42) rfl))) (mvT hZ (hw _ (List.mem_of_getElem? (i := 43) rfl))) (notFace_of_selects (args := #[]) (mvT hZ (hw _ (List.mem_of_getElem? (i := 45) rfl)))) (mvT hZ (hw _ (List.mem_of_getElem? (i := 45) rfl))) (mvT hZ (hw _ (List.mem_of_getElem? (i := 44) rfl))) (by decide) (StrChars.Road.lenW (W := 1) hZ hln (kI := 4) (hw _ (List.mem_of_getElem? (i := 6) rfl)) E_as F_va F_co V_at hcd hbd (O2.ext X00.2) P5 (Nat.le_of_ble_eq_true rfl : ([ch0, ch1, ch2, ch3] : List Int32).length ≤ 4000) (by decide) (by decide)) q29a q29c (g := (mkF m 4 #[.val (.ref asx), .val (.int (1 : Int32)), .val (.int ((((1 : Int32) + (1 : Int32)) + (1 : Int32)) + (1 : Int32)))] [(.ref asx), (.int ((((1 : Int32) + (1 : Int32)) + (1 : Int32)) + (1 : Int32)))])) rfl (by rw [hml]; rfl) (Steps.refl _) (argsL := []) (rest := [(.int ((((1 : Int32) + (1 : Int32)) + (1 : Int32)) + (1 : Int32)))]) (lenOf own_pd0 rfl) rfl (by show 2 * 0 + _ ≤ _; exact Nat.le_of_eq rfl) (hb hby d9_4) (fun _ _ => ⟨rfl, eq26, (by decide : 0 + 0 ≤ _), (by decide : 0 + 0 ≤ _)⟩)
        dsimp only [Pt.U, Pt.locs, Pt.cells, Pt.slots] at X29 l29 y29 z29 ls29 hQ29
        subst l29 y29 z29
        obtain ⟨rfl, rfl, eq29⟩ := hQ29
        have N29 := Fr.app N26 (Fr.nil n0)
        have st30 : own_Go p e below (T29.setTop (mkF m 7 #[.val (.ref asx), .val (.int (1 : Int32)), .val (.int ((((1 : Int32) + (1 : Int32)) + (1 : Int32)) + (1 : Int32)))] [(.int (4 : Int32)), (.int ((((1 : Int32) + (1 : Int32)) + (1 : Int32)) + (1 : Int32)))])) (s₁.setTop (entryFrame m #[(.ref asx), (.int (1 : Int32))] 3)) := fun t kt => st28 t (ls29.trans kt)
        have hc31 : ¬ (((((1 : Int32) + (1 : Int32)) + (1 : Int32)) + (1 : Int32)) < (4 : Int32)) := by decide
        have st32 : own_Go p e below (T29.setTop (mkF m 28 #[.val (.ref asx), .val (.int (1 : Int32)), .val (.int ((((1 : Int32) + (1 : Int32)) + (1 : Int32)) + (1 : Int32)))] [(.int ((((1 : Int32) + (1 : Int32)) + (1 : Int32)) + (1 : Int32)))])) (s₁.setTop (entryFrame m #[(.ref asx), (.int (1 : Int32))] 3)) := fun t kt => st30 t (by
          show Steps p.tables e below (T29.setTop (mkF m 7 #[.val (.ref asx), .val (.int (1 : Int32)), .val (.int ((((1 : Int32) + (1 : Int32)) + (1 : Int32)) + (1 : Int32)))] [(.int (4 : Int32)), (.int ((((1 : Int32) + (1 : Int32)) + (1 : Int32)) + (1 : Int32)))])) _
          refine XS.icmpYes X29.here hx rfl (pc0 := 7) (pc' := 27) rfl (hb hby d9_7) rfl (flt hc31).2.1 (by decide) (by decide) ?_
          show Steps p.tables e below (T29.setTop (mkF m 27 #[.val (.ref asx), .val (.int (1 : Int32)), .val (.int ((((1 : Int32) + (1 : Int32)) + (1 : Int32)) + (1 : Int32)))] [])) _
          refine XS.iloadN X29.here hx rfl (hb hby d9_27) rfl ?_
          show Steps p.tables e below (T29.setTop (mkF m 28 #[.val (.ref asx), .val (.int (1 : Int32)), .val (.int ((((1 : Int32) + (1 : Int32)) + (1 : Int32)) + (1 : Int32)))] [(.int ((((1 : Int32) + (1 : Int32)) + (1 : Int32)) + (1 : Int32)))])) _
          exact kt)
        obtain ⟨fs, hr, hrun, hended, hW, hsame⟩ := X29.leave (v := (some (.int ((((1 : Int32) + (1 : Int32)) + (1 : Int32)) + (1 : Int32))))) (fun h => by rw [Bd.returns] at h; cases h)
        refine ⟨_, _, st32 _ ?_, hrun, hended, _, _, rfl, ?_, ⟨_, rfl⟩, hW, hsame.mono (by decide) (by decide)⟩
        · exact retOut X29 hx Bd.returns rfl (Or.inl ⟨rfl, Or.inl rfl, _, rfl⟩) (hb hby d9_28) hr
        · show Q_rm_fe1 Z asx at1 kb ch0 ch1 ch2 ch3 gz gf h0 n0 _ T29.heap _
          rw [eq29]
          exact ⟨by unfold own_f1 own_f2 own_f3; rw [if_pos q1, if_pos q2, if_pos q3] <;> rfl, N29, rfl⟩
      · have st33 : own_Go p e below (T26.setTop (mkF m 28 #[.val (.ref asx), .val (.int (1 : Int32)), .val (.int (((1 : Int32) + (1 : Int32)) + (1 : Int32)))] [(.int (((1 : Int32) + (1 : Int32)) + (1 : Int32)))])) (s₁.setTop (entryFrame m #[(.ref asx), (.int (1 : Int32))] 3)) := fun t kt => st27 t (by
          show Steps p.tables e below (T26.setTop (mkF m 18 #[.val (.ref asx), .val (.int (1 : Int32)), .val (.int (((1 : Int32) + (1 : Int32)) + (1 : Int32)))] [(.int (own_bl ch3))])) _
          refine XS.ifYes X26.here hx rfl (pc0 := 18) (pc' := 27) rfl (hb hby d9_18) rfl ((if0 _ _).trans (feq q3).2) (by decide) (by decide) ?_
          show Steps p.tables e below (T26.setTop (mkF m 27 #[.val (.ref asx), .val (.int (1 : Int32)), .val (.int (((1 : Int32) + (1 : Int32)) + (1 : Int32)))] [])) _
          refine XS.iloadN X26.here hx rfl (hb hby d9_27) rfl ?_
          show Steps p.tables e below (T26.setTop (mkF m 28 #[.val (.ref asx), .val (.int (1 : Int32)), .val (.int (((1 : Int32) + (1 : Int32)) + (1 : Int32)))] [(.int (((1 : Int32) + (1 : Int32)) + (1 : Int32)))])) _
          exact kt)
        obtain ⟨fs, hr, hrun, hended, hW, hsame⟩ := X26.leave (v := (some (.int (((1 : Int32) + (1 : Int32)) + (1 : Int32))))) (fun h => by rw [Bd.returns] at h; cases h)
        refine ⟨_, _, st33 _ ?_, hrun, hended, _, _, rfl, ?_, ⟨_, rfl⟩, hW, hsame.mono (by decide) (by decide)⟩
        · exact retOut X26 hx Bd.returns rfl (Or.inl ⟨rfl, Or.inl rfl, _, rfl⟩) (hb hby d9_28) hr
        · show Q_rm_fe1 Z asx at1 kb ch0 ch1 ch2 ch3 gz gf h0 n0 _ T26.heap _
          rw [eq26]
          exact ⟨by unfold own_f1 own_f2 own_f3; rw [if_pos q1, if_pos q2, if_neg q3] <;> rfl, N26, rfl⟩
    · have st34 : own_Go p e below (T17.setTop (mkF m 28 #[.val (.ref asx), .val (.int (1 : Int32)), .val (.int ((1 : Int32) + (1 : Int32)))] [(.int ((1 : Int32) + (1 : Int32)))])) (s₁.setTop (entryFrame m #[(.ref asx), (.int (1 : Int32))] 3)) := fun t kt => st18 t (by
        show Steps p.tables e below (T17.setTop (mkF m 18 #[.val (.ref asx), .val (.int (1 : Int32)), .val (.int ((1 : Int32) + (1 : Int32)))] [(.int (own_bl ch2))])) _
        refine XS.ifYes X17.here hx rfl (pc0 := 18) (pc' := 27) rfl (hb hby d9_18) rfl ((if0 _ _).trans (feq q2).2) (by decide) (by decide) ?_
        show Steps p.tables e below (T17.setTop (mkF m 27 #[.val (.ref asx), .val (.int (1 : Int32)), .val (.int ((1 : Int32) + (1 : Int32)))] [])) _
        refine XS.iloadN X17.here hx rfl (hb hby d9_27) rfl ?_
        show Steps p.tables e below (T17.setTop (mkF m 28 #[.val (.ref asx), .val (.int (1 : Int32)), .val (.int ((1 : Int32) + (1 : Int32)))] [(.int ((1 : Int32) + (1 : Int32)))])) _
        exact kt)
      obtain ⟨fs, hr, hrun, hended, hW, hsame⟩ := X17.leave (v := (some (.int ((1 : Int32) + (1 : Int32))))) (fun h => by rw [Bd.returns] at h; cases h)
      refine ⟨_, _, st34 _ ?_, hrun, hended, _, _, rfl, ?_, ⟨_, rfl⟩, hW, hsame.mono (by decide) (by decide)⟩
      · exact retOut X17 hx Bd.returns rfl (Or.inl ⟨rfl, Or.inl rfl, _, rfl⟩) (hb hby d9_28) hr
      · show Q_rm_fe1 Z asx at1 kb ch0 ch1 ch2 ch3 gz gf h0 n0 _ T17.heap _
        rw [eq17]
        exact ⟨by unfold own_f1 own_f2; rw [if_pos q1, if_neg q2] <;> rfl, N17, rfl⟩
  · have st35 : own_Go p e below (T8.setTop (mkF m 28 #[.val (.ref asx), .val (.int (1 : Int32)), .val (.int (1 : Int32))] [(.int (1 : Int32))])) (s₁.setTop (entryFrame m #[(.ref asx), (.int (1 : Int32))] 3)) := fun t kt => st9 t (by
      show Steps p.tables e below (T8.setTop (mkF m 18 #[.val (.ref asx), .val (.int (1 : Int32)), .val (.int (1 : Int32))] [(.int (own_bl ch1))])) _
      refine XS.ifYes X8.here hx rfl (pc0 := 18) (pc' := 27) rfl (hb hby d9_18) rfl ((if0 _ _).trans (feq q1).2) (by decide) (by decide) ?_
      show Steps p.tables e below (T8.setTop (mkF m 27 #[.val (.ref asx), .val (.int (1 : Int32)), .val (.int (1 : Int32))] [])) _
      refine XS.iloadN X8.here hx rfl (hb hby d9_27) rfl ?_
      show Steps p.tables e below (T8.setTop (mkF m 28 #[.val (.ref asx), .val (.int (1 : Int32)), .val (.int (1 : Int32))] [(.int (1 : Int32))])) _
      exact kt)
    obtain ⟨fs, hr, hrun, hended, hW, hsame⟩ := X8.leave (v := (some (.int (1 : Int32)))) (fun h => by rw [Bd.returns] at h; cases h)
    refine ⟨_, _, st35 _ ?_, hrun, hended, _, _, rfl, ?_, ⟨_, rfl⟩, hW, hsame.mono (by decide) (by decide)⟩
    · exact retOut X8 hx Bd.returns rfl (Or.inl ⟨rfl, Or.inl rfl, _, rfl⟩) (hb hby d9_28) hr
    · show Q_rm_fe1 Z asx at1 kb ch0 ch1 ch2 ch3 gz gf h0 n0 _ T8.heap _
      rw [eq8]
      exact ⟨by unfold own_f1; rw [if_neg q1] <;> rfl, N8, rfl⟩
def Q_rm_fe2 (Z : State) (asx : Addr) (at1 : Addr) (kb : ClassId) (ch0 : Int32) (ch1 : Int32) (ch2 : Int32) (ch3 : Int32) (gz : Int32) (gf : Value) (h0 : Heap) (n0 : Nat) (v : Option Value) (h : Heap) (L : List Loc) : Prop := v = some (.int (own_f2 ch2 ch3)) ∧ Fr n0 L ∧ h = h0
set_option maxRecDepth 65536 in
set_option maxHeartbeats 40000000 in
theorem rm_fe2 (l : Launch) (Z : State) (a0 : Array Value) (hw : ∀ d ∈ tables_1, d.before a0 Z = true) (ws : List Jvm.Cond) (asx : Addr) (at1 : Addr) (kb : ClassId) (ch0 : Int32) (ch1 : Int32) (ch2 : Int32) (ch3 : Int32) (gz : Int32) (gf : Value) (h0 : Heap) (n0 : Nat) (Z0 : n0 ≤ h0.size) (E_as : Exa Z h0 asx "java/lang/String") (F_va : Fld Z h0 asx "java/lang/String" "value" "[B" (.ref at1)) (F_co : Fld Z h0 asx "java/lang/String" "coder" "B" (.int 0)) (V_at : Arv Z h0 at1 kb .byte (Int32.ofNat 4) ((([ch0, ch1, ch2, ch3] : List Int32).map (fun c => c.toInt8.toInt32)).map Value.int) (.int 0)) (hp : ∀ c ∈ ([ch0, ch1, ch2, ch3] : List Int32), ¬ c < 0 ∧ ¬ (255 : Int32) < c) (O2 : Sta Z Z.heap "java/lang/String" "COMPACT_STRINGS" "Z" (.int gz)) (P5 : ¬ gz = 0) (O4 : Sta Z Z.heap "jdk/internal/util/Preconditions" "SIOOBE_FORMATTER" "Ljava/util/function/BiFunction;" gf) (rG : gf.isRef = true) (X00 : Old Z n0 h0) :
    MetFree l (⟨"com/example/datumbridge/datumbridge/cli/InputLines", "fieldEnd", "(Ljava/lang/String;I)I"⟩ : MethodName) (head1 (Jvm.Cond.code (⟨"com/example/datumbridge/datumbridge/cli/InputLines", "fieldEnd", "(Ljava/lang/String;I)I"⟩ : MethodName) prog_9_method_5_code 3 (some .int) :: ws) ({ frames := 4, cells := 0, slots := 0, locals := 53 } : Room)) (fun a U => a = #[(.ref asx), (.int (2 : Int32))] ∧ Z.Warmed39 U.vm ∧ U.heap = h0) (fun _ _ _ _ _ => True) (fun _ U o U' => ∃ v L, o = .returned v ∧ Q_rm_fe2 Z asx at1 kb ch0 ch1 ch2 ch3 gz gf h0 n0 v U'.heap L ∧ FrameEnd U o U' L ({ frames := 4, cells := 0, slots := 0, locals := 53 } : Room).cells ({ frames := 4, cells := 0, slots := 0, locals := 53 } : Room).slots) := by
  refine MetFree.of_bodySF (plainFor_of_name own_pn1) hisR ?_
  intro p e s m args below meth c s₁ Bd hml0 hP hK
  obtain ⟨rfl, hZ, hh⟩ := hP
  have hx := Bd.exec
  have hby := Bd.bytes
  have hml : c.maxLocals = 3 := hml0
  have hown : s.vm.findClass "com/example/datumbridge/datumbridge/cli/InputLines" = some m.cls := findClass_of_methodNamed Bd.named
  have hnm := (name_of_methodNamed Bd.named Bd.method).1
  have X0 : Stand p l e ({ frames := 4, cells := 0, slots := 0, locals := 53 } : Room) s m #[(.ref asx), (.int (2 : Int32))] below meth c s₁ [] 0 0 := Stand.of_body Bd
  have e0 : s₁.heap = h0 := by rw [← hh, Bd.state]; rfl
  have N0 := Fr.nil n0
  have st0 : own_Go p e below (s₁.setTop (mkF m 0 #[.val (.ref asx), .val (.int (2 : Int32)), .unset] [])) (s₁.setTop (entryFrame m #[(.ref asx), (.int (2 : Int32))] 3)) := fun t k => castTop (own_ef9_RI m asx (2 : Int32)) k
  have hln : ∀ d ∈ StrChars.Road.wordsLen, d.before a0 Z = true := fun d hd => hw d ((by decide +kernel : ∀ d ∈ StrChars.Road.wordsLen, d ∈ tables_1) d hd)
  have hch : ∀ d ∈ StrChars.Road.wordsChN, d.before a0 Z = true := fun d hd => hw d ((by decide +kernel : ∀ d ∈ StrChars.Road.wordsChN, d ∈ tables_1) d hd)
  have hcd : StrChars.Road.CodA ([ch0, ch1, ch2, ch3] : List Int32) 0 (Int32.ofNat 4) ((([ch0, ch1, ch2, ch3] : List Int32).map (fun c => c.toInt8.toInt32)).map Value.int) := StrChars.Road.codOf (n := 4) rfl (fun x hx => (hp x hx).2)
  have hbd := own_up _ hp
  have st1 : own_Go p e below (s₁.setTop (mkF m 4 #[.val (.ref asx), .val (.int (2 : Int32)), .val (.int (2 : Int32))] [(.ref asx), (.int (2 : Int32))])) (s₁.setTop (entryFrame m #[(.ref asx), (.int (2 : Int32))] 3)) := fun t kt => st0 t (by
    show Steps p.tables e below (s₁.setTop (mkF m 0 #[.val (.ref asx), .val (.int (2 : Int32)), .unset] [])) _
    refine XS.iloadN X0.here hx rfl (hb hby d9_0) rfl ?_
    show Steps p.tables e below (s₁.setTop (mkF m 1 #[.val (.ref asx), .val (.int (2 : Int32)), .unset] [(.int (2 : Int32))])) _
    refine XS.istoreN X0.here hx rfl (hb hby d9_1) rfl (l' := #[.val (.ref asx), .val (.int (2 : Int32)), .val (.int (2 : Int32))]) rfl ?_
    show Steps p.tables e below (s₁.setTop (mkF m 2 #[.val (.ref asx), .val (.int (2 : Int32)), .val (.int (2 : Int32))] [])) _
    refine XS.iloadN X0.here hx rfl (hb hby d9_2) rfl ?_
    show Steps p.tables e below (s₁.setTop (mkF m 3 #[.val (.ref asx), .val (.int (2 : Int32)), .val (.int (2 : Int32))] [(.int (2 : Int32))])) _
    refine XS.aloadN X0.here hx rfl (hb hby d9_3) rfl rfl ?_
    show Steps p.tables e below (s₁.setTop (mkF m 4 #[.val (.ref asx), .val (.int (2 : Int32)), .val (.int (2 : Int32))] [(.ref asx), (.int (2 : Int32))])) _
    exact kt)
  obtain ⟨cq2, kq2, q2a, q2b, q2c⟩ := isOf hZ e0 E_as
  obtain ⟨_, _, ⟨T2, L2, k2, n2⟩, -, X2, ⟨Lc2, hQ2, l2, y2, z2⟩, ls2⟩ := X0.virtualBack hx (y := (⟨"java/lang/String", "length", "()I"⟩ : MethodName)) (z := (⟨"java/lang/String", "length", "()I"⟩ : MethodName)) hown (mvT hZ (hw _ (List.mem_of_getElem? (i := 42) rfl))) (mvT hZ (hw _ (List.mem_of_getElem? (i := 43) rfl))) (notFace_of_selects (args := #[]) (mvT hZ (hw _ (List.mem_of_getElem? (i := 45) rfl)))) (mvT hZ (hw _ (List.mem_of_getElem? (i := 45) rfl))) (mvT hZ (hw _ (List.mem_of_getElem? (i := 44) rfl))) (by decide) (StrChars.Road.lenW (W := 1) hZ hln (kI := 4) (hw _ (List.mem_of_getElem? (i := 6) rfl)) E_as F_va F_co V_at hcd hbd (O2.ext X00.2) P5 (Nat.le_of_ble_eq_true rfl : ([ch0, ch1, ch2, ch3] : List Int32).length ≤ 4000) (by decide) (by decide)) q2a q2c (g := (mkF m 4 #[.val (.ref asx), .val (.int (2 : Int32)), .val (.int (2 : Int32))] [(.ref asx), (.int (2 : Int32))])) rfl (by rw [hml]; rfl) (Steps.refl _) (argsL := []) (rest := [(.int (2 : Int32))]) (lenOf own_pd0 rfl) rfl (by show 2 * 0 + _ ≤ _; exact Nat.le_of_eq rfl) (hb hby d9_4) (fun _ _ => ⟨rfl, e0, (by decide : 0 + 0 ≤ _), (by decide : 0 + 0 ≤ _)⟩)
  dsimp only [Pt.U, Pt.locs, Pt.cells, Pt.slots] at X2 l2 y2 z2 ls2 hQ2
  subst l2 y2 z2
  obtain ⟨rfl, rfl, eq2⟩ := hQ2
  have N2 := Fr.app N0 (Fr.nil n0)
  have st3 : own_Go p e below (T2.setTop (mkF m 7 #[.val (.ref asx), .val (.int (2 : Int32)), .val (.int (2 : Int32))] [(.int (4 : Int32)), (.int (2 : Int32))])) (s₁.setTop (entryFrame m #[(.ref asx), (.int (2 : Int32))] 3)) := fun t kt => st1 t (ls2.trans kt)
  have hc4 : (2 : Int32) < (4 : Int32) := by decide
  have st5 : own_Go p e below (T2.setTop (mkF m 12 #[.val (.ref asx), .val (.int (2 : Int32)), .val (.int (2 : Int32))] [(.int (2 : Int32)), (.ref asx)])) (s₁.setTop (entryFrame m #[(.ref asx), (.int (2 : Int32))] 3)) := fun t kt => st3 t (by
    show Steps p.tables e below (T2.setTop (mkF m 7 #[.val (.ref asx), .val (.int (2 : Int32)), .val (.int (2 : Int32))] [(.int (4 : Int32)), (.int (2 : Int32))])) _
    refine XS.icmpNo X2.here hx rfl (hb hby d9_7) rfl (tlt hc4).2.1 ?_
    show Steps p.tables e below (T2.setTop (mkF m 10 #[.val (.ref asx), .val (.int (2 : Int32)), .val (.int (2 : Int32))] [])) _
    refine XS.aloadN X2.here hx rfl (hb hby d9_10) rfl rfl ?_
    show Steps p.tables e below (T2.setTop (mkF m 11 #[.val (.ref asx), .val (.int (2 : Int32)), .val (.int (2 : Int32))] [(.ref asx)])) _
    refine XS.iloadN X2.here hx rfl (hb hby d9_11) rfl ?_
    show Steps p.tables e below (T2.setTop (mkF m 12 #[.val (.ref asx), .val (.int (2 : Int32)), .val (.int (2 : Int32))] [(.int (2 : Int32)), (.ref asx)])) _
    exact kt)
  obtain ⟨cq6, kq6, q6a, q6b, q6c⟩ := isOf hZ eq2 E_as
  obtain ⟨_, _, ⟨T6, L6, k6, n6⟩, -, X6, ⟨Lc6, hQ6, l6, y6, z6⟩, ls6⟩ := X2.virtualBack hx (y := (⟨"java/lang/String", "charAt", "(I)C"⟩ : MethodName)) (z := (⟨"java/lang/String", "charAt", "(I)C"⟩ : MethodName)) hown (mvT hZ (hw _ (List.mem_of_getElem? (i := 52) rfl))) (mvT hZ (hw _ (List.mem_of_getElem? (i := 53) rfl))) (notFace_of_selects (args := #[]) (mvT hZ (hw _ (List.mem_of_getElem? (i := 55) rfl)))) (mvT hZ (hw _ (List.mem_of_getElem? (i := 55) rfl))) (mvT hZ (hw _ (List.mem_of_getElem? (i := 54) rfl))) (by decide) (StrChars.Road.chN (W := 0) hZ hch (kI := 4) (hw _ (List.mem_of_getElem? (i := 6) rfl)) E_as F_va F_co V_at hcd hbd (O2.ext X00.2) P5 (O4.ext X00.2) rG (Nat.le_of_ble_eq_true rfl : ([ch0, ch1, ch2, ch3] : List Int32).length ≤ 4000) (i := 2) (Nat.le_of_ble_eq_true rfl : 2 < ([ch0, ch1, ch2, ch3] : List Int32).length) (j := 2) rfl (by decide) (by decide)) q6a q6c (g := (mkF m 12 #[.val (.ref asx), .val (.int (2 : Int32)), .val (.int (2 : Int32))] [(.int (2 : Int32)), (.ref asx)])) rfl (by rw [hml]; rfl) (Steps.refl _) (argsL := [(.int (2 : Int32))]) (rest := []) (lenOf own_pd1 rfl) rfl (by show 2 * 0 + _ ≤ _; exact Nat.le_of_eq rfl) (hb hby d9_12) (fun _ _ => ⟨rfl, eq2, (by decide : 0 + 0 ≤ _), (by decide : 0 + 0 ≤ _)⟩)
  dsimp only [Pt.U, Pt.locs, Pt.cells, Pt.slots] at X6 l6 y6 z6 ls6 hQ6
  subst l6 y6 z6
  obtain ⟨rfl, rfl, eq6⟩ := hQ6
  have N6 := Fr.app N2 (Fr.nil n0)
  have st7 : own_Go p e below (T6.setTop (mkF m 15 #[.val (.ref asx), .val (.int (2 : Int32)), .val (.int (2 : Int32))] [(.int ch2)])) (s₁.setTop (entryFrame m #[(.ref asx), (.int (2 : Int32))] 3)) := fun t kt => st5 t (ls6.trans kt)
  obtain ⟨_, _, ⟨T8, L8, k8, n8⟩, -, X8, ⟨Lc8, hQ8, l8, y8, z8⟩, ls8⟩ := Jvm.LawKit.callS X6 hx (y := (⟨"com/example/datumbridge/datumbridge/cli/InputLines", "isBlank", "(C)Z"⟩ : MethodName)) hown (mvT hZ (hw _ (List.mem_of_getElem? (i := 74) rfl))) (mvT hZ (hw _ (List.mem_of_getElem? (i := 75) rfl))) (mvT hZ (hw _ (List.mem_of_getElem? (i := 40) rfl))) (mvT hZ (hw _ (List.mem_of_getElem? (i := 76) rfl))) (by decide) (backOf (W := 0) (rm_isBlank l Z a0 hw [] ch2 h0 n0 Z0) hZ (hw _ (List.mem_of_getElem? (i := 76) rfl)) (hw _ (List.mem_of_getElem? (i := 40) rfl)) (by decide) (by decide)) (g := (mkF m 15 #[.val (.ref asx), .val (.int (2 : Int32)), .val (.int (2 : Int32))] [(.int ch2)])) rfl (by rw [hml]; rfl) (argsL := [(.int ch2)]) (rest := []) (lenOf own_pd2 rfl) rfl (by show 2 * 0 + _ ≤ _; exact Nat.le_of_eq rfl) (hb hby d9_15) (fun _ _ => ⟨rfl, eq6, (by decide : 0 + 0 ≤ _), (by decide : 0 + 0 ≤ _)⟩)
  dsimp only [Pt.U, Pt.locs, Pt.cells, Pt.slots] at X8 l8 y8 z8 ls8 hQ8
  subst l8 y8 z8
  obtain ⟨rfl, Nq8, eq8⟩ := hQ8
  have N8 := Fr.app N6 Nq8
  have st9 : own_Go p e below (T8.setTop (mkF m 18 #[.val (.ref asx), .val (.int (2 : Int32)), .val (.int (2 : Int32))] [(.int (own_bl ch2))])) (s₁.setTop (entryFrame m #[(.ref asx), (.int (2 : Int32))] 3)) := fun t kt => st7 t (ls8 t kt)
  by_cases q2 : (own_bl ch2) = (0 : Int32)
  · have st10 : own_Go p e below (T8.setTop (mkF m 4 #[.val (.ref asx), .val (.int (2 : Int32)), .val (.int ((2 : Int32) + (1 : Int32)))] [(.ref asx), (.int ((2 : Int32) + (1 : Int32)))])) (s₁.setTop (entryFrame m #[(.ref asx), (.int (2 : Int32))] 3)) := fun t kt => st9 t (by
      show Steps p.tables e below (T8.setTop (mkF m 18 #[.val (.ref asx), .val (.int (2 : Int32)), .val (.int (2 : Int32))] [(.int (own_bl ch2))])) _
      refine XS.ifNo X8.here hx rfl (hb hby d9_18) rfl ((if0 _ _).trans (teq q2).2) ?_
      show Steps p.tables e below (T8.setTop (mkF m 21 #[.val (.ref asx), .val (.int (2 : Int32)), .val (.int (2 : Int32))] [])) _
      refine XS.iinc X8.here hx rfl (hb hby d9_21) rfl (l' := #[.val (.ref asx), .val (.int (2 : Int32)), .val (.int ((2 : Int32) + (1 : Int32)))]) rfl ?_
      show Steps p.tables e below (T8.setTop (mkF m 24 #[.val (.ref asx), .val (.int (2 : Int32)), .val (.int ((2 : Int32) + (1 : Int32)))] [])) _
      refine XS.goto X8.here hx rfl (pc0 := 24) (pc' := 2) rfl (hb hby d9_24) (by decide) (by decide) ?_
      show Steps p.tables e below (T8.setTop (mkF m 2 #[.val (.ref asx), .val (.int (2 : Int32)), .val (.int ((2 : Int32) + (1 : Int32)))] [])) _
      refine XS.iloadN X8.here hx rfl (hb hby d9_2) rfl ?_
      show Steps p.tables e below (T8.setTop (mkF m 3 #[.val (.ref asx), .val (.int (2 : Int32)), .val (.int ((2 : Int32) + (1 : Int32)))] [(.int ((2 : Int32) + (1 : Int32)))])) _
      refine XS.aloadN X8.here hx rfl (hb hby d9_3) rfl rfl ?_
      show Steps p.tables e below (T8.setTop (mkF m 4 #[.val (.ref asx), .val (.int (2 : Int32)), .val (.int ((2 : Int32) + (1 : Int32)))] [(.ref asx), (.int ((2 : Int32) + (1 : Int32)))])) _
      exact kt)
    obtain ⟨cq11, kq11, q11a, q11b, q11c⟩ := isOf hZ eq8 E_as
    obtain ⟨_, _, ⟨T11, L11, k11, n11⟩, -, X11, ⟨Lc11, hQ11, l11, y11, z11⟩, ls11⟩ := X8.virtualBack hx (y := (⟨"java/lang/String", "length", "()I"⟩ : MethodName)) (z := (⟨"java/lang/String", "length", "()I"⟩ : MethodName)) hown (mvT hZ (hw _ (List.mem_of_getElem? (i := 42) rfl))) (mvT hZ (hw _ (List.mem_of_getElem? (i := 43) rfl))) (notFace_of_selects (args := #[]) (mvT hZ (hw _ (List.mem_of_getElem? (i := 45) rfl)))) (mvT hZ (hw _ (List.mem_of_getElem? (i := 45) rfl))) (mvT hZ (hw _ (List.mem_of_getElem? (i := 44) rfl))) (by decide) (StrChars.Road.lenW (W := 1) hZ hln (kI := 4) (hw _ (List.mem_of_getElem? (i := 6) rfl)) E_as F_va F_co V_at hcd hbd (O2.ext X00.2) P5 (Nat.le_of_ble_eq_true rfl : ([ch0, ch1, ch2, ch3] : List Int32).length ≤ 4000) (by decide) (by decide)) q11a q11c (g := (mkF m 4 #[.val (.ref asx), .val (.int (2 : Int32)), .val (.int ((2 : Int32) + (1 : Int32)))] [(.ref asx), (.int ((2 : Int32) + (1 : Int32)))])) rfl (by rw [hml]; rfl) (Steps.refl _) (argsL := []) (rest := [(.int ((2 : Int32) + (1 : Int32)))]) (lenOf own_pd0 rfl) rfl (by show 2 * 0 + _ ≤ _; exact Nat.le_of_eq rfl) (hb hby d9_4) (fun _ _ => ⟨rfl, eq8, (by decide : 0 + 0 ≤ _), (by decide : 0 + 0 ≤ _)⟩)
    dsimp only [Pt.U, Pt.locs, Pt.cells, Pt.slots] at X11 l11 y11 z11 ls11 hQ11
    subst l11 y11 z11
    obtain ⟨rfl, rfl, eq11⟩ := hQ11
    have N11 := Fr.app N8 (Fr.nil n0)
    have st12 : own_Go p e below (T11.setTop (mkF m 7 #[.val (.ref asx), .val (.int (2 : Int32)), .val (.int ((2 : Int32) + (1 : Int32)))] [(.int (4 : Int32)), (.int ((2 : Int32) + (1 : Int32)))])) (s₁.setTop (entryFrame m #[(.ref asx), (.int (2 : Int32))] 3)) := fun t kt => st10 t (ls11.trans kt)
    have hc13 : ((2 : Int32) + (1 : Int32)) < (4 : Int32) := by decide
    have st14 : own_Go p e below (T11.setTop (mkF m 12 #[.val (.ref asx), .val (.int (2 : Int32)), .val (.int ((2 : Int32) + (1 : Int32)))] [(.int ((2 : Int32) + (1 : Int32))), (.ref asx)])) (s₁.setTop (entryFrame m #[(.ref asx), (.int (2 : Int32))] 3)) := fun t kt => st12 t (by
      show Steps p.tables e below (T11.setTop (mkF m 7 #[.val (.ref asx), .val (.int (2 : Int32)), .val (.int ((2 : Int32) + (1 : Int32)))] [(.int (4 : Int32)), (.int ((2 : Int32) + (1 : Int32)))])) _
      refine XS.icmpNo X11.here hx rfl (hb hby d9_7) rfl (tlt hc13).2.1 ?_
      show Steps p.tables e below (T11.setTop (mkF m 10 #[.val (.ref asx), .val (.int (2 : Int32)), .val (.int ((2 : Int32) + (1 : Int32)))] [])) _
      refine XS.aloadN X11.here hx rfl (hb hby d9_10) rfl rfl ?_
      show Steps p.tables e below (T11.setTop (mkF m 11 #[.val (.ref asx), .val (.int (2 : Int32)), .val (.int ((2 : Int32) + (1 : Int32)))] [(.ref asx)])) _
      refine XS.iloadN X11.here hx rfl (hb hby d9_11) rfl ?_
      show Steps p.tables e below (T11.setTop (mkF m 12 #[.val (.ref asx), .val (.int (2 : Int32)), .val (.int ((2 : Int32) + (1 : Int32)))] [(.int ((2 : Int32) + (1 : Int32))), (.ref asx)])) _
      exact kt)
    obtain ⟨cq15, kq15, q15a, q15b, q15c⟩ := isOf hZ eq11 E_as
    obtain ⟨_, _, ⟨T15, L15, k15, n15⟩, -, X15, ⟨Lc15, hQ15, l15, y15, z15⟩, ls15⟩ := X11.virtualBack hx (y := (⟨"java/lang/String", "charAt", "(I)C"⟩ : MethodName)) (z := (⟨"java/lang/String", "charAt", "(I)C"⟩ : MethodName)) hown (mvT hZ (hw _ (List.mem_of_getElem? (i := 52) rfl))) (mvT hZ (hw _ (List.mem_of_getElem? (i := 53) rfl))) (notFace_of_selects (args := #[]) (mvT hZ (hw _ (List.mem_of_getElem? (i := 55) rfl)))) (mvT hZ (hw _ (List.mem_of_getElem? (i := 55) rfl))) (mvT hZ (hw _ (List.mem_of_getElem? (i := 54) rfl))) (by decide) (StrChars.Road.chN (W := 0) hZ hch (kI := 4) (hw _ (List.mem_of_getElem? (i := 6) rfl)) E_as F_va F_co V_at hcd hbd (O2.ext X00.2) P5 (O4.ext X00.2) rG (Nat.le_of_ble_eq_true rfl : ([ch0, ch1, ch2, ch3] : List Int32).length ≤ 4000) (i := 3) (Nat.le_of_ble_eq_true rfl : 3 < ([ch0, ch1, ch2, ch3] : List Int32).length) (j := 3) rfl (by decide) (by decide)) q15a q15c (g := (mkF m 12 #[.val (.ref asx), .val (.int (2 : Int32)), .val (.int ((2 : Int32) + (1 : Int32)))] [(.int ((2 : Int32) + (1 : Int32))), (.ref asx)])) rfl (by rw [hml]; rfl) (Steps.refl _) (argsL := [(.int ((2 : Int32) + (1 : Int32)))]) (rest := []) (lenOf own_pd1 rfl) rfl (by show 2 * 0 + _ ≤ _; exact Nat.le_of_eq rfl) (hb hby d9_12) (fun _ _ => ⟨rfl, eq11, (by decide : 0 + 0 ≤ _), (by decide : 0 + 0 ≤ _)⟩)
    dsimp only [Pt.U, Pt.locs, Pt.cells, Pt.slots] at X15 l15 y15 z15 ls15 hQ15
    subst l15 y15 z15
    obtain ⟨rfl, rfl, eq15⟩ := hQ15
    have N15 := Fr.app N11 (Fr.nil n0)
    have st16 : own_Go p e below (T15.setTop (mkF m 15 #[.val (.ref asx), .val (.int (2 : Int32)), .val (.int ((2 : Int32) + (1 : Int32)))] [(.int ch3)])) (s₁.setTop (entryFrame m #[(.ref asx), (.int (2 : Int32))] 3)) := fun t kt => st14 t (ls15.trans kt)
    obtain ⟨_, _, ⟨T17, L17, k17, n17⟩, -, X17, ⟨Lc17, hQ17, l17, y17, z17⟩, ls17⟩ := Jvm.LawKit.callS X15 hx (y := (⟨"com/example/datumbridge/datumbridge/cli/InputLines", "isBlank", "(C)Z"⟩ : MethodName)) hown (mvT hZ (hw _ (List.mem_of_getElem? (i := 74) rfl))) (mvT hZ (hw _ (List.mem_of_getElem? (i := 75) rfl))) (mvT hZ (hw _ (List.mem_of_getElem? (i := 40) rfl))) (mvT hZ (hw _ (List.mem_of_getElem? (i := 76) rfl))) (by decide) (backOf (W := 0) (rm_isBlank l Z a0 hw [] ch3 h0 n0 Z0) hZ (hw _ (List.mem_of_getElem? (i := 76) rfl)) (hw _ (List.mem_of_getElem? (i := 40) rfl)) (by decide) (by decide)) (g := (mkF m 15 #[.val (.ref asx), .val (.int (2 : Int32)), .val (.int ((2 : Int32) + (1 : Int32)))] [(.int ch3)])) rfl (by rw [hml]; rfl) (argsL := [(.int ch3)]) (rest := []) (lenOf own_pd2 rfl) rfl (by show 2 * 0 + _ ≤ _; exact Nat.le_of_eq rfl) (hb hby d9_15) (fun _ _ => ⟨rfl, eq15, (by decide : 0 + 0 ≤ _), (by decide : 0 + 0 ≤ _)⟩)
    dsimp only [Pt.U, Pt.locs, Pt.cells, Pt.slots] at X17 l17 y17 z17 ls17 hQ17
    subst l17 y17 z17
    obtain ⟨rfl, Nq17, eq17⟩ := hQ17
    have N17 := Fr.app N15 Nq17
    have st18 : own_Go p e below (T17.setTop (mkF m 18 #[.val (.ref asx), .val (.int (2 : Int32)), .val (.int ((2 : Int32) + (1 : Int32)))] [(.int (own_bl ch3))])) (s₁.setTop (entryFrame m #[(.ref asx), (.int (2 : Int32))] 3)) := fun t kt => st16 t (ls17 t kt)
    by_cases q3 : (own_bl ch3) = (0 : Int32)
    · have st19 : own_Go p e below (T17.setTop (mkF m 4 #[.val (.ref asx), .val (.int (2 : Int32)), .val (.int (((2 : Int32) + (1 : Int32)) + (1 : Int32)))] [(.ref asx), (.int (((2 : Int32) + (1 : Int32)) + (1 : Int32)))])) (s₁.setTop (entryFrame m #[(.ref asx), (.int (2 : Int32))] 3)) := fun t kt => st18 t (by
        show Steps p.tables e below (T17.setTop (mkF m 18 #[.val (.ref asx), .val (.int (2 : Int32)), .val (.int ((2 : Int32) + (1 : Int32)))] [(.int (own_bl ch3))])) _
        refine XS.ifNo X17.here hx rfl (hb hby d9_18) rfl ((if0 _ _).trans (teq q3).2) ?_
        show Steps p.tables e below (T17.setTop (mkF m 21 #[.val (.ref asx), .val (.int (2 : Int32)), .val (.int ((2 : Int32) + (1 : Int32)))] [])) _
        refine XS.iinc X17.here hx rfl (hb hby d9_21) rfl (l' := #[.val (.ref asx), .val (.int (2 : Int32)), .val (.int (((2 : Int32) + (1 : Int32)) + (1 : Int32)))]) rfl ?_
        show Steps p.tables e below (T17.setTop (mkF m 24 #[.val (.ref asx), .val (.int (2 : Int32)), .val (.int (((2 : Int32) + (1 : Int32)) + (1 : Int32)))] [])) _
        refine XS.goto X17.here hx rfl (pc0 := 24) (pc' := 2) rfl (hb hby d9_24) (by decide) (by decide) ?_
        show Steps p.tables e below (T17.setTop (mkF m 2 #[.val (.ref asx), .val (.int (2 : Int32)), .val (.int (((2 : Int32) + (1 : Int32)) + (1 : Int32)))] [])) _
        refine XS.iloadN X17.here hx rfl (hb hby d9_2) rfl ?_
        show Steps p.tables e below (T17.setTop (mkF m 3 #[.val (.ref asx), .val (.int (2 : Int32)), .val (.int (((2 : Int32) + (1 : Int32)) + (1 : Int32)))] [(.int (((2 : Int32) + (1 : Int32)) + (1 : Int32)))])) _
        refine XS.aloadN X17.here hx rfl (hb hby d9_3) rfl rfl ?_
        show Steps p.tables e below (T17.setTop (mkF m 4 #[.val (.ref asx), .val (.int (2 : Int32)), .val (.int (((2 : Int32) + (1 : Int32)) + (1 : Int32)))] [(.ref asx), (.int (((2 : Int32) + (1 : Int32)) + (1 : Int32)))])) _
        exact kt)
      obtain ⟨cq20, kq20, q20a, q20b, q20c⟩ := isOf hZ eq17 E_as
      obtain ⟨_, _, ⟨T20, L20, k20, n20⟩, -, X20, ⟨Lc20, hQ20, l20, y20, z20⟩, ls20⟩ := X17.virtualBack hx (y := (⟨"java/lang/String", "length", "()I"⟩ : MethodName)) (z := (⟨"java/lang/String", "length", "()I"⟩ : MethodName)) hown (mvT hZ (hw _ (List.mem_of_getElem? (i := 42) rfl))) (mvT hZ (hw _ (List.mem_of_getElem? (i := 43) rfl))) (notFace_of_selects (args := #[]) (mvT hZ (hw _ (List.mem_of_getElem? (i := 45) rfl)))) (mvT hZ (hw _ (List.mem_of_getElem? (i := 45) rfl))) (mvT hZ (hw _ (List.mem_of_getElem? (i := 44) rfl))) (by decide) (StrChars.Road.lenW (W := 1) hZ hln (kI := 4) (hw _ (List.mem_of_getElem? (i := 6) rfl)) E_as F_va F_co V_at hcd hbd (O2.ext X00.2) P5 (Nat.le_of_ble_eq_true rfl : ([ch0, ch1, ch2, ch3] : List Int32).length ≤ 4000) (by decide) (by decide)) q20a q20c (g := (mkF m 4 #[.val (.ref asx), .val (.int (2 : Int32)), .val (.int (((2 : Int32) + (1 : Int32)) + (1 : Int32)))] [(.ref asx), (.int (((2 : Int32) + (1 : Int32)) + (1 : Int32)))])) rfl (by rw [hml]; rfl) (Steps.refl _) (argsL := []) (rest := [(.int (((2 : Int32) + (1 : Int32)) + (1 : Int32)))]) (lenOf own_pd0 rfl) rfl (by show 2 * 0 + _ ≤ _; exact Nat.le_of_eq rfl) (hb hby d9_4) (fun _ _ => ⟨rfl, eq17, (by decide : 0 + 0 ≤ _), (by decide : 0 + 0 ≤ _)⟩)
      dsimp only [Pt.U, Pt.locs, Pt.cells, Pt.slots] at X20 l20 y20 z20 ls20 hQ20
      subst l20 y20 z20
      obtain ⟨rfl, rfl, eq20⟩ := hQ20
      have N20 := Fr.app N17 (Fr.nil n0)
      have st21 : own_Go p e below (T20.setTop (mkF m 7 #[.val (.ref asx), .val (.int (2 : Int32)), .val (.int (((2 : Int32) + (1 : Int32)) + (1 : Int32)))] [(.int (4 : Int32)), (.int (((2 : Int32) + (1 : Int32)) + (1 : Int32)))])) (s₁.setTop (entryFrame m #[(.ref asx), (.int (2 : Int32))] 3)) := fun t kt => st19 t (ls20.trans kt)
      have hc22 : ¬ ((((2 : Int32) + (1 : Int32)) + (1 : Int32)) < (4 : Int32)) := by decide
      have st23 : own_Go p e below (T20.setTop (mkF m 28 #[.val (.ref asx), .val (.int (2 : Int32)), .val (.int (((2 : Int32) + (1 : Int32)) + (1 : Int32)))] [(.int (((2 : Int32) + (1 : Int32)) + (1 : Int32)))])) (s₁.setTop (entryFrame m #[(.ref asx), (.int (2 : Int32))] 3)) := fun t kt => st21 t (by
        show Steps p.tables e below (T20.setTop (mkF m 7 #[.val (.ref asx), .val (.int (2 : Int32)), .val (.int (((2 : Int32) + (1 : Int32)) + (1 : Int32)))] [(.int (4 : Int32)), (.int (((2 : Int32) + (1 : Int32)) + (1 : Int32)))])) _
        refine XS.icmpYes X20.here hx rfl (pc0 := 7) (pc' := 27) rfl (hb hby d9_7) rfl (flt hc22).2.1 (by decide) (by decide) ?_
        show Steps p.tables e below (T20.setTop (mkF m 27 #[.val (.ref asx), .val (.int (2 : Int32)), .val (.int (((2 : Int32) + (1 : Int32)) + (1 : Int32)))] [])) _
        refine XS.iloadN X20.here hx rfl (hb hby d9_27) rfl ?_
        show Steps p.tables e below (T20.setTop (mkF m 28 #[.val (.ref asx), .val (.int (2 : Int32)), .val (.int (((2 : Int32) + (1 : Int32)) + (1 : Int32)))] [(.int (((2 : Int32) + (1 : Int32)) + (1 : Int32)))])) _
        exact kt)
      obtain ⟨fs, hr, hrun, hended, hW, hsame⟩ := X20.leave (v := (some (.int (((2 : Int32) + (1 : Int32)) + (1 : Int32))))) (fun h => by rw [Bd.returns] at h; cases h)
      refine ⟨_, _, st23 _ ?_, hrun, hended, _, _, rfl, ?_, ⟨_, rfl⟩, hW, hsame.mono (by decide) (by decide)⟩
      · exact retOut X20 hx Bd.returns rfl (Or.inl ⟨rfl, Or.inl rfl, _, rfl⟩) (hb hby d9_28) hr
      · show Q_rm_fe2 Z asx at1 kb ch0 ch1 ch2 ch3 gz gf h0 n0 _ T20.heap _
        rw [eq20]
        exact ⟨by unfold own_f2 own_f3; rw [if_pos q2, if_pos q3] <;> rfl, N20, rfl⟩
    · have st24 : own_Go p e below (T17.setTop (mkF m 28 #[.val (.ref asx), .val (.int (2 : Int32)), .val (.int ((2 : Int32) + (1 : Int32)))] [(.int ((2 : Int32) + (1 : Int32)))])) (s₁.setTop (entryFrame m #[(.ref asx), (.int (2 : Int32))] 3)) := fun t kt => st18 t (by
        show Steps p.tables e below (T17.setTop (mkF m 18 #[.val (.ref asx), .val (.int (2 : Int32)), .val (.int ((2 : Int32) + (1 : Int32)))] [(.int (own_bl ch3))])) _
        refine XS.ifYes X17.here hx rfl (pc0 := 18) (pc' := 27) rfl (hb hby d9_18) rfl ((if0 _ _).trans (feq q3).2) (by decide) (by decide) ?_
        show Steps p.tables e below (T17.setTop (mkF m 27 #[.val (.ref asx), .val (.int (2 : Int32)), .val (.int ((2 : Int32) + (1 : Int32)))] [])) _
        refine XS.iloadN X17.here hx rfl (hb hby d9_27) rfl ?_
        show Steps p.tables e below (T17.setTop (mkF m 28 #[.val (.ref asx), .val (.int (2 : Int32)), .val (.int ((2 : Int32) + (1 : Int32)))] [(.int ((2 : Int32) + (1 : Int32)))])) _
        exact kt)
      obtain ⟨fs, hr, hrun, hended, hW, hsame⟩ := X17.leave (v := (some (.int ((2 : Int32) + (1 : Int32))))) (fun h => by rw [Bd.returns] at h; cases h)
      refine ⟨_, _, st24 _ ?_, hrun, hended, _, _, rfl, ?_, ⟨_, rfl⟩, hW, hsame.mono (by decide) (by decide)⟩
      · exact retOut X17 hx Bd.returns rfl (Or.inl ⟨rfl, Or.inl rfl, _, rfl⟩) (hb hby d9_28) hr
      · show Q_rm_fe2 Z asx at1 kb ch0 ch1 ch2 ch3 gz gf h0 n0 _ T17.heap _
        rw [eq17]
        exact ⟨by unfold own_f2 own_f3; rw [if_pos q2, if_neg q3] <;> rfl, N17, rfl⟩
  · have st25 : own_Go p e below (T8.setTop (mkF m 28 #[.val (.ref asx), .val (.int (2 : Int32)), .val (.int (2 : Int32))] [(.int (2 : Int32))])) (s₁.setTop (entryFrame m #[(.ref asx), (.int (2 : Int32))] 3)) := fun t kt => st9 t (by
      show Steps p.tables e below (T8.setTop (mkF m 18 #[.val (.ref asx), .val (.int (2 : Int32)), .val (.int (2 : Int32))] [(.int (own_bl ch2))])) _
      refine XS.ifYes X8.here hx rfl (pc0 := 18) (pc' := 27) rfl (hb hby d9_18) rfl ((if0 _ _).trans (feq q2).2) (by decide) (by decide) ?_
      show Steps p.tables e below (T8.setTop (mkF m 27 #[.val (.ref asx), .val (.int (2 : Int32)), .val (.int (2 : Int32))] [])) _
      refine XS.iloadN X8.here hx rfl (hb hby d9_27) rfl ?_
      show Steps p.tables e below (T8.setTop (mkF m 28 #[.val (.ref asx), .val (.int (2 : Int32)), .val (.int (2 : Int32))] [(.int (2 : Int32))])) _
      exact kt)
    obtain ⟨fs, hr, hrun, hended, hW, hsame⟩ := X8.leave (v := (some (.int (2 : Int32)))) (fun h => by rw [Bd.returns] at h; cases h)
    refine ⟨_, _, st25 _ ?_, hrun, hended, _, _, rfl, ?_, ⟨_, rfl⟩, hW, hsame.mono (by decide) (by decide)⟩
    · exact retOut X8 hx Bd.returns rfl (Or.inl ⟨rfl, Or.inl rfl, _, rfl⟩) (hb hby d9_28) hr
    · show Q_rm_fe2 Z asx at1 kb ch0 ch1 ch2 ch3 gz gf h0 n0 _ T8.heap _
      rw [eq8]
      exact ⟨by unfold own_f2; rw [if_neg q2] <;> rfl, N8, rfl⟩
def Q_rm_fe3 (Z : State) (asx : Addr) (at1 : Addr) (kb : ClassId) (ch0 : Int32) (ch1 : Int32) (ch2 : Int32) (ch3 : Int32) (gz : Int32) (gf : Value) (h0 : Heap) (n0 : Nat) (v : Option Value) (h : Heap) (L : List Loc) : Prop := v = some (.int (own_f3 ch3)) ∧ Fr n0 L ∧ h = h0
set_option maxRecDepth 65536 in
set_option maxHeartbeats 40000000 in
theorem rm_fe3 (l : Launch) (Z : State) (a0 : Array Value) (hw : ∀ d ∈ tables_1, d.before a0 Z = true) (ws : List Jvm.Cond) (asx : Addr) (at1 : Addr) (kb : ClassId) (ch0 : Int32) (ch1 : Int32) (ch2 : Int32) (ch3 : Int32) (gz : Int32) (gf : Value) (h0 : Heap) (n0 : Nat) (Z0 : n0 ≤ h0.size) (E_as : Exa Z h0 asx "java/lang/String") (F_va : Fld Z h0 asx "java/lang/String" "value" "[B" (.ref at1)) (F_co : Fld Z h0 asx "java/lang/String" "coder" "B" (.int 0)) (V_at : Arv Z h0 at1 kb .byte (Int32.ofNat 4) ((([ch0, ch1, ch2, ch3] : List Int32).map (fun c => c.toInt8.toInt32)).map Value.int) (.int 0)) (hp : ∀ c ∈ ([ch0, ch1, ch2, ch3] : List Int32), ¬ c < 0 ∧ ¬ (255 : Int32) < c) (O2 : Sta Z Z.heap "java/lang/String" "COMPACT_STRINGS" "Z" (.int gz)) (P5 : ¬ gz = 0) (O4 : Sta Z Z.heap "jdk/internal/util/Preconditions" "SIOOBE_FORMATTER" "Ljava/util/function/BiFunction;" gf) (rG : gf.isRef = true) (X00 : Old Z n0 h0) :
    MetFree l (⟨"com/example/datumbridge/datumbridge/cli/InputLines", "fieldEnd", "(Ljava/lang/String;I)I"⟩ : MethodName) (head1 (Jvm.Cond.code (⟨"com/example/datumbridge/datumbridge/cli/InputLines", "fieldEnd", "(Ljava/lang/String;I)I"⟩ : MethodName) prog_9_method_5_code 3 (some .int) :: ws) ({ frames := 4, cells := 0, slots := 0, locals := 53 } : Room)) (fun a U => a = #[(.ref asx), (.int (3 : Int32))] ∧ Z.Warmed39 U.vm ∧ U.heap = h0) (fun _ _ _ _ _ => True) (fun _ U o U' => ∃ v L, o = .returned v ∧ Q_rm_fe3 Z asx at1 kb ch0 ch1 ch2 ch3 gz gf h0 n0 v U'.heap L ∧ FrameEnd U o U' L ({ frames := 4, cells := 0, slots := 0, locals := 53 } : Room).cells ({ frames := 4, cells := 0, slots := 0, locals := 53 } : Room).slots) := by
  refine MetFree.of_bodySF (plainFor_of_name own_pn1) hisR ?_
  intro p e s m args below meth c s₁ Bd hml0 hP hK
  obtain ⟨rfl, hZ, hh⟩ := hP
  have hx := Bd.exec
  have hby := Bd.bytes
  have hml : c.maxLocals = 3 := hml0
  have hown : s.vm.findClass "com/example/datumbridge/datumbridge/cli/InputLines" = some m.cls := findClass_of_methodNamed Bd.named
  have hnm := (name_of_methodNamed Bd.named Bd.method).1
  have X0 : Stand p l e ({ frames := 4, cells := 0, slots := 0, locals := 53 } : Room) s m #[(.ref asx), (.int (3 : Int32))] below meth c s₁ [] 0 0 := Stand.of_body Bd
  have e0 : s₁.heap = h0 := by rw [← hh, Bd.state]; rfl
  have N0 := Fr.nil n0
  have st0 : own_Go p e below (s₁.setTop (mkF m 0 #[.val (.ref asx), .val (.int (3 : Int32)), .unset] [])) (s₁.setTop (entryFrame m #[(.ref asx), (.int (3 : Int32))] 3)) := fun t k => castTop (own_ef9_RI m asx (3 : Int32)) k
  have hln : ∀ d ∈ StrChars.Road.wordsLen, d.before a0 Z = true := fun d hd => hw d ((by decide +kernel : ∀ d ∈ StrChars.Road.wordsLen, d ∈ tables_1) d hd)
  have hch : ∀ d ∈ StrChars.Road.wordsChN, d.before a0 Z = true := fun d hd => hw d ((by decide +kernel : ∀ d ∈ StrChars.Road.wordsChN, d ∈ tables_1) d hd)
  have hcd : StrChars.Road.CodA ([ch0, ch1, ch2, ch3] : List Int32) 0 (Int32.ofNat 4) ((([ch0, ch1, ch2, ch3] : List Int32).map (fun c => c.toInt8.toInt32)).map Value.int) := StrChars.Road.codOf (n := 4) rfl (fun x hx => (hp x hx).2)
  have hbd := own_up _ hp
  have st1 : own_Go p e below (s₁.setTop (mkF m 4 #[.val (.ref asx), .val (.int (3 : Int32)), .val (.int (3 : Int32))] [(.ref asx), (.int (3 : Int32))])) (s₁.setTop (entryFrame m #[(.ref asx), (.int (3 : Int32))] 3)) := fun t kt => st0 t (by
    show Steps p.tables e below (s₁.setTop (mkF m 0 #[.val (.ref asx), .val (.int (3 : Int32)), .unset] [])) _
    refine XS.iloadN X0.here hx rfl (hb hby d9_0) rfl ?_
    show Steps p.tables e below (s₁.setTop (mkF m 1 #[.val (.ref asx), .val (.int (3 : Int32)), .unset] [(.int (3 : Int32))])) _
    refine XS.istoreN X0.here hx rfl (hb hby d9_1) rfl (l' := #[.val (.ref asx), .val (.int (3 : Int32)), .val (.int (3 : Int32))]) rfl ?_
    show Steps p.tables e below (s₁.setTop (mkF m 2 #[.val (.ref asx), .val (.int (3 : Int32)), .val (.int (3 : Int32))] [])) _
    refine XS.iloadN X0.here hx rfl (hb hby d9_2) rfl ?_
    show Steps p.tables e below (s₁.setTop (mkF m 3 #[.val (.ref asx), .val (.int (3 : Int32)), .val (.int (3 : Int32))] [(.int (3 : Int32))])) _
    refine XS.aloadN X0.here hx rfl (hb hby d9_3) rfl rfl ?_
    show Steps p.tables e below (s₁.setTop (mkF m 4 #[.val (.ref asx), .val (.int (3 : Int32)), .val (.int (3 : Int32))] [(.ref asx), (.int (3 : Int32))])) _
    exact kt)
  obtain ⟨cq2, kq2, q2a, q2b, q2c⟩ := isOf hZ e0 E_as
  obtain ⟨_, _, ⟨T2, L2, k2, n2⟩, -, X2, ⟨Lc2, hQ2, l2, y2, z2⟩, ls2⟩ := X0.virtualBack hx (y := (⟨"java/lang/String", "length", "()I"⟩ : MethodName)) (z := (⟨"java/lang/String", "length", "()I"⟩ : MethodName)) hown (mvT hZ (hw _ (List.mem_of_getElem? (i := 42) rfl))) (mvT hZ (hw _ (List.mem_of_getElem? (i := 43) rfl))) (notFace_of_selects (args := #[]) (mvT hZ (hw _ (List.mem_of_getElem? (i := 45) rfl)))) (mvT hZ (hw _ (List.mem_of_getElem? (i := 45) rfl))) (mvT hZ (hw _ (List.mem_of_getElem? (i := 44) rfl))) (by decide) (StrChars.Road.lenW (W := 1) hZ hln (kI := 4) (hw _ (List.mem_of_getElem? (i := 6) rfl)) E_as F_va F_co V_at hcd hbd (O2.ext X00.2) P5 (Nat.le_of_ble_eq_true rfl : ([ch0, ch1, ch2, ch3] : List Int32).length ≤ 4000) (by decide) (by decide)) q2a q2c (g := (mkF m 4 #[.val (.ref asx), .val (.int (3 : Int32)), .val (.int (3 : Int32))] [(.ref asx), (.int (3 : Int32))])) rfl (by rw [hml]; rfl) (Steps.refl _) (argsL := []) (rest := [(.int (3 : Int32))]) (lenOf own_pd0 rfl) rfl (by show 2 * 0 + _ ≤ _; exact Nat.le_of_eq rfl) (hb hby d9_4) (fun _ _ => ⟨rfl, e0, (by decide : 0 + 0 ≤ _), (by decide : 0 + 0 ≤ _)⟩)
  dsimp only [Pt.U, Pt.locs, Pt.cells, Pt.slots] at X2 l2 y2 z2 ls2 hQ2
  subst l2 y2 z2
  obtain ⟨rfl, rfl, eq2⟩ := hQ2
  have N2 := Fr.app N0 (Fr.nil n0)
  have st3 : own_Go p e below (T2.setTop (mkF m 7 #[.val (.ref asx), .val (.int (3 : Int32)), .val (.int (3 : Int32))] [(.int (4 : Int32)), (.int (3 : Int32))])) (s₁.setTop (entryFrame m #[(.ref asx), (.int (3 : Int32))] 3)) := fun t kt => st1 t (ls2.trans kt)
  have hc4 : (3 : Int32) < (4 : Int32) := by decide
  have st5 : own_Go p e below (T2.setTop (mkF m 12 #[.val (.ref asx), .val (.int (3 : Int32)), .val (.int (3 : Int32))] [(.int (3 : Int32)), (.ref asx)])) (s₁.setTop (entryFrame m #[(.ref asx), (.int (3 : Int32))] 3)) := fun t kt => st3 t (by
    show Steps p.tables e below (T2.setTop (mkF m 7 #[.val (.ref asx), .val (.int (3 : Int32)), .val (.int (3 : Int32))] [(.int (4 : Int32)), (.int (3 : Int32))])) _
    refine XS.icmpNo X2.here hx rfl (hb hby d9_7) rfl (tlt hc4).2.1 ?_
    show Steps p.tables e below (T2.setTop (mkF m 10 #[.val (.ref asx), .val (.int (3 : Int32)), .val (.int (3 : Int32))] [])) _
    refine XS.aloadN X2.here hx rfl (hb hby d9_10) rfl rfl ?_
    show Steps p.tables e below (T2.setTop (mkF m 11 #[.val (.ref asx), .val (.int (3 : Int32)), .val (.int (3 : Int32))] [(.ref asx)])) _
    refine XS.iloadN X2.here hx rfl (hb hby d9_11) rfl ?_
    show Steps p.tables e below (T2.setTop (mkF m 12 #[.val (.ref asx), .val (.int (3 : Int32)), .val (.int (3 : Int32))] [(.int (3 : Int32)), (.ref asx)])) _
    exact kt)
  obtain ⟨cq6, kq6, q6a, q6b, q6c⟩ := isOf hZ eq2 E_as
  obtain ⟨_, _, ⟨T6, L6, k6, n6⟩, -, X6, ⟨Lc6, hQ6, l6, y6, z6⟩, ls6⟩ := X2.virtualBack hx (y := (⟨"java/lang/String", "charAt", "(I)C"⟩ : MethodName)) (z := (⟨"java/lang/String", "charAt", "(I)C"⟩ : MethodName)) hown (mvT hZ (hw _ (List.mem_of_getElem? (i := 52) rfl))) (mvT hZ (hw _ (List.mem_of_getElem? (i := 53) rfl))) (notFace_of_selects (args := #[]) (mvT hZ (hw _ (List.mem_of_getElem? (i := 55) rfl)))) (mvT hZ (hw _ (List.mem_of_getElem? (i := 55) rfl))) (mvT hZ (hw _ (List.mem_of_getElem? (i := 54) rfl))) (by decide) (StrChars.Road.chN (W := 0) hZ hch (kI := 4) (hw _ (List.mem_of_getElem? (i := 6) rfl)) E_as F_va F_co V_at hcd hbd (O2.ext X00.2) P5 (O4.ext X00.2) rG (Nat.le_of_ble_eq_true rfl : ([ch0, ch1, ch2, ch3] : List Int32).length ≤ 4000) (i := 3) (Nat.le_of_ble_eq_true rfl : 3 < ([ch0, ch1, ch2, ch3] : List Int32).length) (j := 3) rfl (by decide) (by decide)) q6a q6c (g := (mkF m 12 #[.val (.ref asx), .val (.int (3 : Int32)), .val (.int (3 : Int32))] [(.int (3 : Int32)), (.ref asx)])) rfl (by rw [hml]; rfl) (Steps.refl _) (argsL := [(.int (3 : Int32))]) (rest := []) (lenOf own_pd1 rfl) rfl (by show 2 * 0 + _ ≤ _; exact Nat.le_of_eq rfl) (hb hby d9_12) (fun _ _ => ⟨rfl, eq2, (by decide : 0 + 0 ≤ _), (by decide : 0 + 0 ≤ _)⟩)
  dsimp only [Pt.U, Pt.locs, Pt.cells, Pt.slots] at X6 l6 y6 z6 ls6 hQ6
  subst l6 y6 z6
  obtain ⟨rfl, rfl, eq6⟩ := hQ6
  have N6 := Fr.app N2 (Fr.nil n0)
  have st7 : own_Go p e below (T6.setTop (mkF m 15 #[.val (.ref asx), .val (.int (3 : Int32)), .val (.int (3 : Int32))] [(.int ch3)])) (s₁.setTop (entryFrame m #[(.ref asx), (.int (3 : Int32))] 3)) := fun t kt => st5 t (ls6.trans kt)
  obtain ⟨_, _, ⟨T8, L8, k8, n8⟩, -, X8, ⟨Lc8, hQ8, l8, y8, z8⟩, ls8⟩ := Jvm.LawKit.callS X6 hx (y := (⟨"com/example/datumbridge/datumbridge/cli/InputLines", "isBlank", "(C)Z"⟩ : MethodName)) hown (mvT hZ (hw _ (List.mem_of_getElem? (i := 74) rfl))) (mvT hZ (hw _ (List.mem_of_getElem? (i := 75) rfl))) (mvT hZ (hw _ (List.mem_of_getElem? (i := 40) rfl))) (mvT hZ (hw _ (List.mem_of_getElem? (i := 76) rfl))) (by decide) (backOf (W := 0) (rm_isBlank l Z a0 hw [] ch3 h0 n0 Z0) hZ (hw _ (List.mem_of_getElem? (i := 76) rfl)) (hw _ (List.mem_of_getElem? (i := 40) rfl)) (by decide) (by decide)) (g := (mkF m 15 #[.val (.ref asx), .val (.int (3 : Int32)), .val (.int (3 : Int32))] [(.int ch3)])) rfl (by rw [hml]; rfl) (argsL := [(.int ch3)]) (rest := []) (lenOf own_pd2 rfl) rfl (by show 2 * 0 + _ ≤ _; exact Nat.le_of_eq rfl) (hb hby d9_15) (fun _ _ => ⟨rfl, eq6, (by decide : 0 + 0 ≤ _), (by decide : 0 + 0 ≤ _)⟩)
  dsimp only [Pt.U, Pt.locs, Pt.cells, Pt.slots] at X8 l8 y8 z8 ls8 hQ8
  subst l8 y8 z8
  obtain ⟨rfl, Nq8, eq8⟩ := hQ8
  have N8 := Fr.app N6 Nq8
  have st9 : own_Go p e below (T8.setTop (mkF m 18 #[.val (.ref asx), .val (.int (3 : Int32)), .val (.int (3 : Int32))] [(.int (own_bl ch3))])) (s₁.setTop (entryFrame m #[(.ref asx), (.int (3 : Int32))] 3)) := fun t kt => st7 t (ls8 t kt)
  by_cases q3 : (own_bl ch3) = (0 : Int32)
  · have st10 : own_Go p e below (T8.setTop (mkF m 4 #[.val (.ref asx), .val (.int (3 : Int32)), .val (.int ((3 : Int32) + (1 : Int32)))] [(.ref asx), (.int ((3 : Int32) + (1 : Int32)))])) (s₁.setTop (entryFrame m #[(.ref asx), (.int (3 : Int32))] 3)) := fun t kt => st9 t (by
      show Steps p.tables e below (T8.setTop (mkF m 18 #[.val (.ref asx), .val (.int (3 : Int32)), .val (.int (3 : Int32))] [(.int (own_bl ch3))])) _
      refine XS.ifNo X8.here hx rfl (hb hby d9_18) rfl ((if0 _ _).trans (teq q3).2) ?_
      show Steps p.tables e below (T8.setTop (mkF m 21 #[.val (.ref asx), .val (.int (3 : Int32)), .val (.int (3 : Int32))] [])) _
      refine XS.iinc X8.here hx rfl (hb hby d9_21) rfl (l' := #[.val (.ref asx), .val (.int (3 : Int32)), .val (.int ((3 : Int32) + (1 : Int32)))]) rfl ?_
      show Steps p.tables e below (T8.setTop (mkF m 24 #[.val (.ref asx), .val (.int (3 : Int32)), .val (.int ((3 : Int32) + (1 : Int32)))] [])) _
      refine XS.goto X8.here hx rfl (pc0 := 24) (pc' := 2) rfl (hb hby d9_24) (by decide) (by decide) ?_
      show Steps p.tables e below (T8.setTop (mkF m 2 #[.val (.ref asx), .val (.int (3 : Int32)), .val (.int ((3 : Int32) + (1 : Int32)))] [])) _
      refine XS.iloadN X8.here hx rfl (hb hby d9_2) rfl ?_
      show Steps p.tables e below (T8.setTop (mkF m 3 #[.val (.ref asx), .val (.int (3 : Int32)), .val (.int ((3 : Int32) + (1 : Int32)))] [(.int ((3 : Int32) + (1 : Int32)))])) _
      refine XS.aloadN X8.here hx rfl (hb hby d9_3) rfl rfl ?_
      show Steps p.tables e below (T8.setTop (mkF m 4 #[.val (.ref asx), .val (.int (3 : Int32)), .val (.int ((3 : Int32) + (1 : Int32)))] [(.ref asx), (.int ((3 : Int32) + (1 : Int32)))])) _
      exact kt)
    obtain ⟨cq11, kq11, q11a, q11b, q11c⟩ := isOf hZ eq8 E_as
    obtain ⟨_, _, ⟨T11, L11, k11, n11⟩, -, X11, ⟨Lc11, hQ11, l11, y11, z11⟩, ls11⟩ := X8.virtualBack hx (y := (⟨"java/lang/String", "length", "()I"⟩ : MethodName)) (z := (⟨"java/lang/String", "length", "()I"⟩ : MethodName)) hown (mvT hZ (hw _ (List.mem_of_getElem? (i := 42) rfl))) (mvT hZ (hw _ (List.mem_of_getElem? (i := 43) rfl))) (notFace_of_selects (args := #[]) (mvT hZ (hw _ (List.mem_of_getElem? (i := 45) rfl)))) (mvT hZ (hw _ (List.mem_of_getElem? (i := 45) rfl))) (mvT hZ (hw _ (List.mem_of_getElem? (i := 44) rfl))) (by decide) (StrChars.Road.lenW (W := 1) hZ hln (kI := 4) (hw _ (List.mem_of_getElem? (i := 6) rfl)) E_as F_va F_co V_at hcd hbd (O2.ext X00.2) P5 (Nat.le_of_ble_eq_true rfl : ([ch0, ch1, ch2, ch3] : List Int32).length ≤ 4000) (by decide) (by decide)) q11a q11c (g := (mkF m 4 #[.val (.ref asx), .val (.int (3 : Int32)), .val (.int ((3 : Int32) + (1 : Int32)))] [(.ref asx), (.int ((3 : Int32) + (1 : Int32)))])) rfl (by rw [hml]; rfl) (Steps.refl _) (argsL := []) (rest := [(.int ((3 : Int32) + (1 : Int32)))]) (lenOf own_pd0 rfl) rfl (by show 2 * 0 + _ ≤ _; exact Nat.le_of_eq rfl) (hb hby d9_4) (fun _ _ => ⟨rfl, eq8, (by decide : 0 + 0 ≤ _), (by decide : 0 + 0 ≤ _)⟩)
    dsimp only [Pt.U, Pt.locs, Pt.cells, Pt.slots] at X11 l11 y11 z11 ls11 hQ11
    subst l11 y11 z11
    obtain ⟨rfl, rfl, eq11⟩ := hQ11
    have N11 := Fr.app N8 (Fr.nil n0)
    have st12 : own_Go p e below (T11.setTop (mkF m 7 #[.val (.ref asx), .val (.int (3 : Int32)), .val (.int ((3 : Int32) + (1 : Int32)))] [(.int (4 : Int32)), (.int ((3 : Int32) + (1 : Int32)))])) (s₁.setTop (entryFrame m #[(.ref asx), (.int (3 : Int32))] 3)) := fun t kt => st10 t (ls11.trans kt)
    have hc13 : ¬ (((3 : Int32) + (1 : Int32)) < (4 : Int32)) := by decide
    have st14 : own_Go p e below (T11.setTop (mkF m 28 #[.val (.ref asx), .val (.int (3 : Int32)), .val (.int ((3 : Int32) + (1 : Int32)))] [(.int ((3 : Int32) + (1 : Int32)))])) (s₁.setTop (entryFrame m #[(.ref asx), (.int (3 : Int32))] 3)) := fun t kt => st12 t (by
      show Steps p.tables e below (T11.setTop (mkF m 7 #[.val (.ref asx), .val (.int (3 : Int32)), .val (.int ((3 : Int32) + (1 : Int32)))] [(.int (4 : Int32)), (.int ((3 : Int32) + (1 : Int32)))])) _
      refine XS.icmpYes X11.here hx rfl (pc0 := 7) (pc' := 27) rfl (hb hby d9_7) rfl (flt hc13).2.1 (by decide) (by decide) ?_
      show Steps p.tables e below (T11.setTop (mkF m 27 #[.val (.ref asx), .val (.int (3 : Int32)), .val (.int ((3 : Int32) + (1 : Int32)))] [])) _
      refine XS.iloadN X11.here hx rfl (hb hby d9_27) rfl ?_
      show Steps p.tables e below (T11.setTop (mkF m 28 #[.val (.ref asx), .val (.int (3 : Int32)), .val (.int ((3 : Int32) + (1 : Int32)))] [(.int ((3 : Int32) + (1 : Int32)))])) _
      exact kt)
    obtain ⟨fs, hr, hrun, hended, hW, hsame⟩ := X11.leave (v := (some (.int ((3 : Int32) + (1 : Int32))))) (fun h => by rw [Bd.returns] at h; cases h)
    refine ⟨_, _, st14 _ ?_, hrun, hended, _, _, rfl, ?_, ⟨_, rfl⟩, hW, hsame.mono (by decide) (by decide)⟩
    · exact retOut X11 hx Bd.returns rfl (Or.inl ⟨rfl, Or.inl rfl, _, rfl⟩) (hb hby d9_28) hr
    · show Q_rm_fe3 Z asx at1 kb ch0 ch1 ch2 ch3 gz gf h0 n0 _ T11.heap _
      rw [eq11]
      exact ⟨by unfold own_f3; rw [if_pos q3] <;> rfl, N11, rfl⟩
  · have st15 : own_Go p e below (T8.setTop (mkF m 28 #[.val (.ref asx), .val (.int (3 : Int32)), .val (.int (3 : Int32))] [(.int (3 : Int32))])) (s₁.setTop (entryFrame m #[(.ref asx), (.int (3 : Int32))] 3)) := fun t kt => st9 t (by
      show Steps p.tables e below (T8.setTop (mkF m 18 #[.val (.ref asx), .val (.int (3 : Int32)), .val (.int (3 : Int32))] [(.int (own_bl ch3))])) _
      refine XS.ifYes X8.here hx rfl (pc0 := 18) (pc' := 27) rfl (hb hby d9_18) rfl ((if0 _ _).trans (feq q3).2) (by decide) (by decide) ?_
      show Steps p.tables e below (T8.setTop (mkF m 27 #[.val (.ref asx), .val (.int (3 : Int32)), .val (.int (3 : Int32))] [])) _
      refine XS.iloadN X8.here hx rfl (hb hby d9_27) rfl ?_
      show Steps p.tables e below (T8.setTop (mkF m 28 #[.val (.ref asx), .val (.int (3 : Int32)), .val (.int (3 : Int32))] [(.int (3 : Int32))])) _
      exact kt)
    obtain ⟨fs, hr, hrun, hended, hW, hsame⟩ := X8.leave (v := (some (.int (3 : Int32)))) (fun h => by rw [Bd.returns] at h; cases h)
    refine ⟨_, _, st15 _ ?_, hrun, hended, _, _, rfl, ?_, ⟨_, rfl⟩, hW, hsame.mono (by decide) (by decide)⟩
    · exact retOut X8 hx Bd.returns rfl (Or.inl ⟨rfl, Or.inl rfl, _, rfl⟩) (hb hby d9_28) hr
    · show Q_rm_fe3 Z asx at1 kb ch0 ch1 ch2 ch3 gz gf h0 n0 _ T8.heap _
      rw [eq8]
      exact ⟨by unfold own_f3; rw [if_neg q3] <;> rfl, N8, rfl⟩
def Q_rm_fe4 (Z : State) (asx : Addr) (at1 : Addr) (kb : ClassId) (ch0 : Int32) (ch1 : Int32) (ch2 : Int32) (ch3 : Int32) (gz : Int32) (gf : Value) (h0 : Heap) (n0 : Nat) (v : Option Value) (h : Heap) (L : List Loc) : Prop := v = some (.int (4)) ∧ Fr n0 L ∧ h = h0
set_option maxRecDepth 65536 in
set_option maxHeartbeats 40000000 in
theorem rm_fe4 (l : Launch) (Z : State) (a0 : Array Value) (hw : ∀ d ∈ tables_1, d.before a0 Z = true) (ws : List Jvm.Cond) (asx : Addr) (at1 : Addr) (kb : ClassId) (ch0 : Int32) (ch1 : Int32) (ch2 : Int32) (ch3 : Int32) (gz : Int32) (gf : Value) (h0 : Heap) (n0 : Nat) (Z0 : n0 ≤ h0.size) (E_as : Exa Z h0 asx "java/lang/String") (F_va : Fld Z h0 asx "java/lang/String" "value" "[B" (.ref at1)) (F_co : Fld Z h0 asx "java/lang/String" "coder" "B" (.int 0)) (V_at : Arv Z h0 at1 kb .byte (Int32.ofNat 4) ((([ch0, ch1, ch2, ch3] : List Int32).map (fun c => c.toInt8.toInt32)).map Value.int) (.int 0)) (hp : ∀ c ∈ ([ch0, ch1, ch2, ch3] : List Int32), ¬ c < 0 ∧ ¬ (255 : Int32) < c) (O2 : Sta Z Z.heap "java/lang/String" "COMPACT_STRINGS" "Z" (.int gz)) (P5 : ¬ gz = 0) (O4 : Sta Z Z.heap "jdk/internal/util/Preconditions" "SIOOBE_FORMATTER" "Ljava/util/function/BiFunction;" gf) (rG : gf.isRef = true) (X00 : Old Z n0 h0) :
    MetFree l (⟨"com/example/datumbridge/datumbridge/cli/InputLines", "fieldEnd", "(Ljava/lang/String;I)I"⟩ : MethodName) (head1 (Jvm.Cond.code (⟨"com/example/datumbridge/datumbridge/cli/InputLines", "fieldEnd", "(Ljava/lang/String;I)I"⟩ : MethodName) prog_9_method_5_code 3 (some .int) :: ws) ({ frames := 2, cells := 0, slots := 0, locals := 26 } : Room)) (fun a U => a = #[(.ref asx), (.int (4 : Int32))] ∧ Z.Warmed39 U.vm ∧ U.heap = h0) (fun _ _ _ _ _ => True) (fun _ U o U' => ∃ v L, o = .returned v ∧ Q_rm_fe4 Z asx at1 kb ch0 ch1 ch2 ch3 gz gf h0 n0 v U'.heap L ∧ FrameEnd U o U' L ({ frames := 2, cells := 0, slots := 0, locals := 26 } : Room).cells ({ frames := 2, cells := 0, slots := 0, locals := 26 } : Room).slots) := by
  refine MetFree.of_bodySF (plainFor_of_name own_pn1) hisR ?_
  intro p e s m args below meth c s₁ Bd hml0 hP hK
  obtain ⟨rfl, hZ, hh⟩ := hP
  have hx := Bd.exec
  have hby := Bd.bytes
  have hml : c.maxLocals = 3 := hml0
  have hown : s.vm.findClass "com/example/datumbridge/datumbridge/cli/InputLines" = some m.cls := findClass_of_methodNamed Bd.named
  have hnm := (name_of_methodNamed Bd.named Bd.method).1
  have X0 : Stand p l e ({ frames := 2, cells := 0, slots := 0, locals := 26 } : Room) s m #[(.ref asx), (.int (4 : Int32))] below meth c s₁ [] 0 0 := Stand.of_body Bd
  have e0 : s₁.heap = h0 := by rw [← hh, Bd.state]; rfl
  have N0 := Fr.nil n0
  have st0 : own_Go p e below (s₁.setTop (mkF m 0 #[.val (.ref asx), .val (.int (4 : Int32)), .unset] [])) (s₁.setTop (entryFrame m #[(.ref asx), (.int (4 : Int32))] 3)) := fun t k => castTop (own_ef9_RI m asx (4 : Int32)) k
  have hln : ∀ d ∈ StrChars.Road.wordsLen, d.before a0 Z = true := fun d hd => hw d ((by decide +kernel : ∀ d ∈ StrChars.Road.wordsLen, d ∈ tables_1) d hd)
  have hch : ∀ d ∈ StrChars.Road.wordsChN, d.before a0 Z = true := fun d hd => hw d ((by decide +kernel : ∀ d ∈ StrChars.Road.wordsChN, d ∈ tables_1) d hd)
  have hcd : StrChars.Road.CodA ([ch0, ch1, ch2, ch3] : List Int32) 0 (Int32.ofNat 4) ((([ch0, ch1, ch2, ch3] : List Int32).map (fun c => c.toInt8.toInt32)).map Value.int) := StrChars.Road.codOf (n := 4) rfl (fun x hx => (hp x hx).2)
  have hbd := own_up _ hp
  have st1 : own_Go p e below (s₁.setTop (mkF m 4 #[.val (.ref asx), .val (.int (4 : Int32)), .val (.int (4 : Int32))] [(.ref asx), (.int (4 : Int32))])) (s₁.setTop (entryFrame m #[(.ref asx), (.int (4 : Int32))] 3)) := fun t kt => st0 t (by
    show Steps p.tables e below (s₁.setTop (mkF m 0 #[.val (.ref asx), .val (.int (4 : Int32)), .unset] [])) _
    refine XS.iloadN X0.here hx rfl (hb hby d9_0) rfl ?_
    show Steps p.tables e below (s₁.setTop (mkF m 1 #[.val (.ref asx), .val (.int (4 : Int32)), .unset] [(.int (4 : Int32))])) _
    refine XS.istoreN X0.here hx rfl (hb hby d9_1) rfl (l' := #[.val (.ref asx), .val (.int (4 : Int32)), .val (.int (4 : Int32))]) rfl ?_
    show Steps p.tables e below (s₁.setTop (mkF m 2 #[.val (.ref asx), .val (.int (4 : Int32)), .val (.int (4 : Int32))] [])) _
    refine XS.iloadN X0.here hx rfl (hb hby d9_2) rfl ?_
    show Steps p.tables e below (s₁.setTop (mkF m 3 #[.val (.ref asx), .val (.int (4 : Int32)), .val (.int (4 : Int32))] [(.int (4 : Int32))])) _
    refine XS.aloadN X0.here hx rfl (hb hby d9_3) rfl rfl ?_
    show Steps p.tables e below (s₁.setTop (mkF m 4 #[.val (.ref asx), .val (.int (4 : Int32)), .val (.int (4 : Int32))] [(.ref asx), (.int (4 : Int32))])) _
    exact kt)
  obtain ⟨cq2, kq2, q2a, q2b, q2c⟩ := isOf hZ e0 E_as
  obtain ⟨_, _, ⟨T2, L2, k2, n2⟩, -, X2, ⟨Lc2, hQ2, l2, y2, z2⟩, ls2⟩ := X0.virtualBack hx (y := (⟨"java/lang/String", "length", "()I"⟩ : MethodName)) (z := (⟨"java/lang/String", "length", "()I"⟩ : MethodName)) hown (mvT hZ (hw _ (List.mem_of_getElem? (i := 42) rfl))) (mvT hZ (hw _ (List.mem_of_getElem? (i := 43) rfl))) (notFace_of_selects (args := #[]) (mvT hZ (hw _ (List.mem_of_getElem? (i := 45) rfl)))) (mvT hZ (hw _ (List.mem_of_getElem? (i := 45) rfl))) (mvT hZ (hw _ (List.mem_of_getElem? (i := 44) rfl))) (by decide) (StrChars.Road.lenW (W := 1) hZ hln (kI := 4) (hw _ (List.mem_of_getElem? (i := 6) rfl)) E_as F_va F_co V_at hcd hbd (O2.ext X00.2) P5 (Nat.le_of_ble_eq_true rfl : ([ch0, ch1, ch2, ch3] : List Int32).length ≤ 4000) (by decide) (by decide)) q2a q2c (g := (mkF m 4 #[.val (.ref asx), .val (.int (4 : Int32)), .val (.int (4 : Int32))] [(.ref asx), (.int (4 : Int32))])) rfl (by rw [hml]; rfl) (Steps.refl _) (argsL := []) (rest := [(.int (4 : Int32))]) (lenOf own_pd0 rfl) rfl (by show 2 * 0 + _ ≤ _; exact Nat.le_of_eq rfl) (hb hby d9_4) (fun _ _ => ⟨rfl, e0, (by decide : 0 + 0 ≤ _), (by decide : 0 + 0 ≤ _)⟩)
  dsimp only [Pt.U, Pt.locs, Pt.cells, Pt.slots] at X2 l2 y2 z2 ls2 hQ2
  subst l2 y2 z2
  obtain ⟨rfl, rfl, eq2⟩ := hQ2
  have N2 := Fr.app N0 (Fr.nil n0)
  have st3 : own_Go p e below (T2.setTop (mkF m 7 #[.val (.ref asx), .val (.int (4 : Int32)), .val (.int (4 : Int32))] [(.int (4 : Int32)), (.int (4 : Int32))])) (s₁.setTop (entryFrame m #[(.ref asx), (.int (4 : Int32))] 3)) := fun t kt => st1 t (ls2.trans kt)
  have hc4 : ¬ ((4 : Int32) < (4 : Int32)) := by decide
  have st5 : own_Go p e below (T2.setTop (mkF m 28 #[.val (.ref asx), .val (.int (4 : Int32)), .val (.int (4 : Int32))] [(.int (4 : Int32))])) (s₁.setTop (entryFrame m #[(.ref asx), (.int (4 : Int32))] 3)) := fun t kt => st3 t (by
    show Steps p.tables e below (T2.setTop (mkF m 7 #[.val (.ref asx), .val (.int (4 : Int32)), .val (.int (4 : Int32))] [(.int (4 : Int32)), (.int (4 : Int32))])) _
    refine XS.icmpYes X2.here hx rfl (pc0 := 7) (pc' := 27) rfl (hb hby d9_7) rfl (flt hc4).2.1 (by decide) (by decide) ?_
    show Steps p.tables e below (T2.setTop (mkF m 27 #[.val (.ref asx), .val (.int (4 : Int32)), .val (.int (4 : Int32))] [])) _
    refine XS.iloadN X2.here hx rfl (hb hby d9_27) rfl ?_
    show Steps p.tables e below (T2.setTop (mkF m 28 #[.val (.ref asx), .val (.int (4 : Int32)), .val (.int (4 : Int32))] [(.int (4 : Int32))])) _
    exact kt)
  obtain ⟨fs, hr, hrun, hended, hW, hsame⟩ := X2.leave (v := (some (.int (4 : Int32)))) (fun h => by rw [Bd.returns] at h; cases h)
  refine ⟨_, _, st5 _ ?_, hrun, hended, _, _, rfl, ?_, ⟨_, rfl⟩, hW, hsame.mono (by decide) (by decide)⟩
  · exact retOut X2 hx Bd.returns rfl (Or.inl ⟨rfl, Or.inl rfl, _, rfl⟩) (hb hby d9_28) hr
  · show Q_rm_fe4 Z asx at1 kb ch0 ch1 ch2 ch3 gz gf h0 n0 _ T2.heap _
    rw [eq2]
    exact ⟨rfl, N2, rfl⟩
def Q_rm_fe5 (Z : State) (asx : Addr) (at1 : Addr) (kb : ClassId) (ch0 : Int32) (ch1 : Int32) (ch2 : Int32) (ch3 : Int32) (gz : Int32) (gf : Value) (h0 : Heap) (n0 : Nat) (v : Option Value) (h : Heap) (L : List Loc) : Prop := v = some (.int (5)) ∧ Fr n0 L ∧ h = h0
set_option maxRecDepth 65536 in
set_option maxHeartbeats 40000000 in
theorem rm_fe5 (l : Launch) (Z : State) (a0 : Array Value) (hw : ∀ d ∈ tables_1, d.before a0 Z = true) (ws : List Jvm.Cond) (asx : Addr) (at1 : Addr) (kb : ClassId) (ch0 : Int32) (ch1 : Int32) (ch2 : Int32) (ch3 : Int32) (gz : Int32) (gf : Value) (h0 : Heap) (n0 : Nat) (Z0 : n0 ≤ h0.size) (E_as : Exa Z h0 asx "java/lang/String") (F_va : Fld Z h0 asx "java/lang/String" "value" "[B" (.ref at1)) (F_co : Fld Z h0 asx "java/lang/String" "coder" "B" (.int 0)) (V_at : Arv Z h0 at1 kb .byte (Int32.ofNat 4) ((([ch0, ch1, ch2, ch3] : List Int32).map (fun c => c.toInt8.toInt32)).map Value.int) (.int 0)) (hp : ∀ c ∈ ([ch0, ch1, ch2, ch3] : List Int32), ¬ c < 0 ∧ ¬ (255 : Int32) < c) (O2 : Sta Z Z.heap "java/lang/String" "COMPACT_STRINGS" "Z" (.int gz)) (P5 : ¬ gz = 0) (O4 : Sta Z Z.heap "jdk/internal/util/Preconditions" "SIOOBE_FORMATTER" "Ljava/util/function/BiFunction;" gf) (rG : gf.isRef = true) (X00 : Old Z n0 h0) :
    MetFree l (⟨"com/example/datumbridge/datumbridge/cli/InputLines", "fieldEnd", "(Ljava/lang/String;I)I"⟩ : MethodName) (head1 (Jvm.Cond.code (⟨"com/example/datumbridge/datumbridge/cli/InputLines", "fieldEnd", "(Ljava/lang/String;I)I"⟩ : MethodName) prog_9_method_5_code 3 (some .int) :: ws) ({ frames := 2, cells := 0, slots := 0, locals := 26 } : Room)) (fun a U => a = #[(.ref asx), (.int (5 : Int32))] ∧ Z.Warmed39 U.vm ∧ U.heap = h0) (fun _ _ _ _ _ => True) (fun _ U o U' => ∃ v L, o = .returned v ∧ Q_rm_fe5 Z asx at1 kb ch0 ch1 ch2 ch3 gz gf h0 n0 v U'.heap L ∧ FrameEnd U o U' L ({ frames := 2, cells := 0, slots := 0, locals := 26 } : Room).cells ({ frames := 2, cells := 0, slots := 0, locals := 26 } : Room).slots) := by
  refine MetFree.of_bodySF (plainFor_of_name own_pn1) hisR ?_
  intro p e s m args below meth c s₁ Bd hml0 hP hK
  obtain ⟨rfl, hZ, hh⟩ := hP
  have hx := Bd.exec
  have hby := Bd.bytes
  have hml : c.maxLocals = 3 := hml0
  have hown : s.vm.findClass "com/example/datumbridge/datumbridge/cli/InputLines" = some m.cls := findClass_of_methodNamed Bd.named
  have hnm := (name_of_methodNamed Bd.named Bd.method).1
  have X0 : Stand p l e ({ frames := 2, cells := 0, slots := 0, locals := 26 } : Room) s m #[(.ref asx), (.int (5 : Int32))] below meth c s₁ [] 0 0 := Stand.of_body Bd
  have e0 : s₁.heap = h0 := by rw [← hh, Bd.state]; rfl
  have N0 := Fr.nil n0
  have st0 : own_Go p e below (s₁.setTop (mkF m 0 #[.val (.ref asx), .val (.int (5 : Int32)), .unset] [])) (s₁.setTop (entryFrame m #[(.ref asx), (.int (5 : Int32))] 3)) := fun t k => castTop (own_ef9_RI m asx (5 : Int32)) k
  have hln : ∀ d ∈ StrChars.Road.wordsLen, d.before a0 Z = true := fun d hd => hw d ((by decide +kernel : ∀ d ∈ StrChars.Road.wordsLen, d ∈ tables_1) d hd)
  have hch : ∀ d ∈ StrChars.Road.wordsChN, d.before a0 Z = true := fun d hd => hw d ((by decide +kernel : ∀ d ∈ StrChars.Road.wordsChN, d ∈ tables_1) d hd)
  have hcd : StrChars.Road.CodA ([ch0, ch1, ch2, ch3] : List Int32) 0 (Int32.ofNat 4) ((([ch0, ch1, ch2, ch3] : List Int32).map (fun c => c.toInt8.toInt32)).map Value.int) := StrChars.Road.codOf (n := 4) rfl (fun x hx => (hp x hx).2)
  have hbd := own_up _ hp
  have st1 : own_Go p e below (s₁.setTop (mkF m 4 #[.val (.ref asx), .val (.int (5 : Int32)), .val (.int (5 : Int32))] [(.ref asx), (.int (5 : Int32))])) (s₁.setTop (entryFrame m #[(.ref asx), (.int (5 : Int32))] 3)) := fun t kt => st0 t (by
    show Steps p.tables e below (s₁.setTop (mkF m 0 #[.val (.ref asx), .val (.int (5 : Int32)), .unset] [])) _
    refine XS.iloadN X0.here hx rfl (hb hby d9_0) rfl ?_
    show Steps p.tables e below (s₁.setTop (mkF m 1 #[.val (.ref asx), .val (.int (5 : Int32)), .unset] [(.int (5 : Int32))])) _
    refine XS.istoreN X0.here hx rfl (hb hby d9_1) rfl (l' := #[.val (.ref asx), .val (.int (5 : Int32)), .val (.int (5 : Int32))]) rfl ?_
    show Steps p.tables e below (s₁.setTop (mkF m 2 #[.val (.ref asx), .val (.int (5 : Int32)), .val (.int (5 : Int32))] [])) _
    refine XS.iloadN X0.here hx rfl (hb hby d9_2) rfl ?_
    show Steps p.tables e below (s₁.setTop (mkF m 3 #[.val (.ref asx), .val (.int (5 : Int32)), .val (.int (5 : Int32))] [(.int (5 : Int32))])) _
    refine XS.aloadN X0.here hx rfl (hb hby d9_3) rfl rfl ?_
    show Steps p.tables e below (s₁.setTop (mkF m 4 #[.val (.ref asx), .val (.int (5 : Int32)), .val (.int (5 : Int32))] [(.ref asx), (.int (5 : Int32))])) _
    exact kt)
  obtain ⟨cq2, kq2, q2a, q2b, q2c⟩ := isOf hZ e0 E_as
  obtain ⟨_, _, ⟨T2, L2, k2, n2⟩, -, X2, ⟨Lc2, hQ2, l2, y2, z2⟩, ls2⟩ := X0.virtualBack hx (y := (⟨"java/lang/String", "length", "()I"⟩ : MethodName)) (z := (⟨"java/lang/String", "length", "()I"⟩ : MethodName)) hown (mvT hZ (hw _ (List.mem_of_getElem? (i := 42) rfl))) (mvT hZ (hw _ (List.mem_of_getElem? (i := 43) rfl))) (notFace_of_selects (args := #[]) (mvT hZ (hw _ (List.mem_of_getElem? (i := 45) rfl)))) (mvT hZ (hw _ (List.mem_of_getElem? (i := 45) rfl))) (mvT hZ (hw _ (List.mem_of_getElem? (i := 44) rfl))) (by decide) (StrChars.Road.lenW (W := 1) hZ hln (kI := 4) (hw _ (List.mem_of_getElem? (i := 6) rfl)) E_as F_va F_co V_at hcd hbd (O2.ext X00.2) P5 (Nat.le_of_ble_eq_true rfl : ([ch0, ch1, ch2, ch3] : List Int32).length ≤ 4000) (by decide) (by decide)) q2a q2c (g := (mkF m 4 #[.val (.ref asx), .val (.int (5 : Int32)), .val (.int (5 : Int32))] [(.ref asx), (.int (5 : Int32))])) rfl (by rw [hml]; rfl) (Steps.refl _) (argsL := []) (rest := [(.int (5 : Int32))]) (lenOf own_pd0 rfl) rfl (by show 2 * 0 + _ ≤ _; exact Nat.le_of_eq rfl) (hb hby d9_4) (fun _ _ => ⟨rfl, e0, (by decide : 0 + 0 ≤ _), (by decide : 0 + 0 ≤ _)⟩)
  dsimp only [Pt.U, Pt.locs, Pt.cells, Pt.slots] at X2 l2 y2 z2 ls2 hQ2
  subst l2 y2 z2
  obtain ⟨rfl, rfl, eq2⟩ := hQ2
  have N2 := Fr.app N0 (Fr.nil n0)
  have st3 : own_Go p e below (T2.setTop (mkF m 7 #[.val (.ref asx), .val (.int (5 : Int32)), .val (.int (5 : Int32))] [(.int (4 : Int32)), (.int (5 : Int32))])) (s₁.setTop (entryFrame m #[(.ref asx), (.int (5 : Int32))] 3)) := fun t kt => st1 t (ls2.trans kt)
  have hc4 : ¬ ((5 : Int32) < (4 : Int32)) := by decide
  have st5 : own_Go p e below (T2.setTop (mkF m 28 #[.val (.ref asx), .val (.int (5 : Int32)), .val (.int (5 : Int32))] [(.int (5 : Int32))])) (s₁.setTop (entryFrame m #[(.ref asx), (.int (5 : Int32))] 3)) := fun t kt => st3 t (by
    show Steps p.tables e below (T2.setTop (mkF m 7 #[.val (.ref asx), .val (.int (5 : Int32)), .val (.int (5 : Int32))] [(.int (4 : Int32)), (.int (5 : Int32))])) _
    refine XS.icmpYes X2.here hx rfl (pc0 := 7) (pc' := 27) rfl (hb hby d9_7) rfl (flt hc4).2.1 (by decide) (by decide) ?_
    show Steps p.tables e below (T2.setTop (mkF m 27 #[.val (.ref asx), .val (.int (5 : Int32)), .val (.int (5 : Int32))] [])) _
    refine XS.iloadN X2.here hx rfl (hb hby d9_27) rfl ?_
    show Steps p.tables e below (T2.setTop (mkF m 28 #[.val (.ref asx), .val (.int (5 : Int32)), .val (.int (5 : Int32))] [(.int (5 : Int32))])) _
    exact kt)
  obtain ⟨fs, hr, hrun, hended, hW, hsame⟩ := X2.leave (v := (some (.int (5 : Int32)))) (fun h => by rw [Bd.returns] at h; cases h)
  refine ⟨_, _, st5 _ ?_, hrun, hended, _, _, rfl, ?_, ⟨_, rfl⟩, hW, hsame.mono (by decide) (by decide)⟩
  · exact retOut X2 hx Bd.returns rfl (Or.inl ⟨rfl, Or.inl rfl, _, rfl⟩) (hb hby d9_28) hr
  · show Q_rm_fe5 Z asx at1 kb ch0 ch1 ch2 ch3 gz gf h0 n0 _ T2.heap _
    rw [eq2]
    exact ⟨rfl, N2, rfl⟩
def Q_rm_law (Z : State) (x0 : Int32) (x1 : Int32) (x2 : Int32) (x3 : Int32) (xf : Int32) (gz : Int32) (gf : Value) (h0 : Heap) (n0 : Nat) (v : Option Value) (h : Heap) (L : List Loc) : Prop := v = some (.int 1) ∧ Fr n0 L
set_option maxRecDepth 65536 in
set_option maxHeartbeats 40000000 in
theorem rm_law (l : Launch) (Z : State) (a0 : Array Value) (hw : ∀ d ∈ tables_1, d.before a0 Z = true) (ws : List Jvm.Cond) (x0 : Int32) (x1 : Int32) (x2 : Int32) (x3 : Int32) (xf : Int32) (gz : Int32) (gf : Value) (h0 : Heap) (n0 : Nat) (Z0 : n0 ≤ h0.size) (O2 : Sta Z Z.heap "java/lang/String" "COMPACT_STRINGS" "Z" (.int gz)) (P5 : ¬ gz = 0) (O4 : Sta Z Z.heap "jdk/internal/util/Preconditions" "SIOOBE_FORMATTER" "Ljava/util/function/BiFunction;" gf) (rG : gf.isRef = true) (X00 : Old Z n0 h0) :
    MetFree l x (head1 (Jvm.Cond.code x code maxLocals ret :: ws) room_1) (fun a U => a = #[(.int x0), (.int x1), (.int x2), (.int x3), (.int xf)] ∧ Z.Warmed39 U.vm ∧ U.heap = h0) (fun _ _ _ _ _ => True) (fun _ U o U' => ∃ v L, o = .returned v ∧ Q_rm_law Z x0 x1 x2 x3 xf gz gf h0 n0 v U'.heap L ∧ FrameEnd U o U' L room_1.cells room_1.slots) := by
  refine MetFree.of_bodySF (plainFor_of_name own_pn0) hisR ?_
  intro p e s m args below meth c s₁ Bd hml0 hP hK
  obtain ⟨rfl, hZ, hh⟩ := hP
  have hx := Bd.exec
  have hby := Bd.bytes
  have hml : c.maxLocals = 10 := hml0
  have hown : s.vm.findClass "com/example/datumbridge/datumbridge/cli/InputLinesFieldEndPinLaw" = some m.cls := findClass_of_methodNamed Bd.named
  have hnm := (name_of_methodNamed Bd.named Bd.method).1
  have X0 : Stand p l e room_1 s m #[(.int x0), (.int x1), (.int x2), (.int x3), (.int xf)] below meth c s₁ [] 0 0 := Stand.of_body Bd
  have e0 : s₁.heap = h0 := by rw [← hh, Bd.state]; rfl
  have N0 := Fr.nil n0
  have st0 : own_Go p e below (s₁.setTop (mkF m 0 #[.val (.int x0), .val (.int x1), .val (.int x2), .val (.int x3), .val (.int xf), .unset, .unset, .unset, .unset, .unset] [])) (s₁.setTop (entryFrame m #[(.int x0), (.int x1), (.int x2), (.int x3), (.int xf)] maxLocals)) := fun t k => castTop (own_ef0_IIIII m x0 x1 x2 x3 xf) k
  obtain ⟨ch0, h_c0⟩ : ∃ z, z = own_draw x0 := ⟨_, rfl⟩
  have hb0 := own_drb x0
  rw [← h_c0] at hb0
  obtain ⟨ch1, h_c1⟩ : ∃ z, z = own_draw x1 := ⟨_, rfl⟩
  have hb1 := own_drb x1
  rw [← h_c1] at hb1
  obtain ⟨ch2, h_c2⟩ : ∃ z, z = own_draw x2 := ⟨_, rfl⟩
  have hb2 := own_drb x2
  rw [← h_c2] at hb2
  obtain ⟨ch3, h_c3⟩ : ∃ z, z = own_draw x3 := ⟨_, rfl⟩
  have hb3 := own_drb x3
  rw [← h_c3] at hb3
  have st1 : own_Go p e below (s₁.setTop (mkF m 1 #[.val (.int x0), .val (.int x1), .val (.int x2), .val (.int x3), .val (.int xf), .unset, .unset, .unset, .unset, .unset] [(.int (4 : Int32))])) (s₁.setTop (entryFrame m #[(.int x0), (.int x1), (.int x2), (.int x3), (.int xf)] maxLocals)) := fun t kt => st0 t (by
    show Steps p.tables e below (s₁.setTop (mkF m 0 #[.val (.int x0), .val (.int x1), .val (.int x2), .val (.int x3), .val (.int xf), .unset, .unset, .unset, .unset, .unset] [])) _
    refine XS.iconst X0.here hx rfl (hb hby at_0) ?_
    show Steps p.tables e below (s₁.setTop (mkF m 1 #[.val (.int x0), .val (.int x1), .val (.int x2), .val (.int x3), .val (.int xf), .unset, .unset, .unset, .unset, .unset] [(.int (4 : Int32))])) _
    exact kt)
  obtain ⟨T2, h2, c2, X2, e2, E2, A2, ls2⟩ := newP X0 hx hZ (hw _ (List.mem_of_getElem? (i := 0) rfl)) e0 (g := (mkF m 1 #[.val (.int x0), .val (.int x1), .val (.int x2), .val (.int x3), .val (.int xf), .unset, .unset, .unset, .unset, .unset] [(.int (4 : Int32))])) rfl (hb hby at_1) rfl (by decide) (cap := 4) (by decide) (by decide) (by decide) (by decide)
  obtain ⟨b1, g2⟩ : ∃ z, z = h0.size := ⟨_, rfl⟩
  rw [← g2] at A2 ls2
  have g_b1 : n0 ≤ b1 := Nat.le_trans Z0 (Nat.le_of_eq g2.symm)
  have f3 := X00.ext E2
  have z4 := Nat.le_trans Z0 E2.1
  have f5 : own_Av Z h2 b1 .char 4 (fun _ => (.int (0 : Int32))) := own_Av.new A2 (by decide) (by decide)
  have st6 : own_Go p e below (T2.setTop (mkF m 3 #[.val (.int x0), .val (.int x1), .val (.int x2), .val (.int x3), .val (.int xf), .unset, .unset, .unset, .unset, .unset] [(.ref b1)])) (s₁.setTop (entryFrame m #[(.int x0), (.int x1), (.int x2), (.int x3), (.int xf)] maxLocals)) := fun t kt => st1 t (ls2 t kt)
  have st7 : own_Go p e below (T2.setTop (mkF m 9 #[.val (.int x0), .val (.int x1), .val (.int x2), .val (.int x3), .val (.int xf), .val (.ref b1), .unset, .unset, .unset, .unset] [(.int x0), (.int (0 : Int32)), (.ref b1)])) (s₁.setTop (entryFrame m #[(.int x0), (.int x1), (.int x2), (.int x3), (.int xf)] maxLocals)) := fun t kt => st6 t (by
    show Steps p.tables e below (T2.setTop (mkF m 3 #[.val (.int x0), .val (.int x1), .val (.int x2), .val (.int x3), .val (.int xf), .unset, .unset, .unset, .unset, .unset] [(.ref b1)])) _
    refine XS.astore X2.here hx rfl (hb hby at_3) rfl rfl (l' := #[.val (.int x0), .val (.int x1), .val (.int x2), .val (.int x3), .val (.int xf), .val (.ref b1), .unset, .unset, .unset, .unset]) rfl ?_
    show Steps p.tables e below (T2.setTop (mkF m 5 #[.val (.int x0), .val (.int x1), .val (.int x2), .val (.int x3), .val (.int xf), .val (.ref b1), .unset, .unset, .unset, .unset] [])) _
    refine XS.aload X2.here hx rfl (hb hby at_5) rfl rfl ?_
    show Steps p.tables e below (T2.setTop (mkF m 7 #[.val (.int x0), .val (.int x1), .val (.int x2), .val (.int x3), .val (.int xf), .val (.ref b1), .unset, .unset, .unset, .unset] [(.ref b1)])) _
    refine XS.iconst X2.here hx rfl (hb hby at_7) ?_
    show Steps p.tables e below (T2.setTop (mkF m 8 #[.val (.int x0), .val (.int x1), .val (.int x2), .val (.int x3), .val (.int xf), .val (.ref b1), .unset, .unset, .unset, .unset] [(.int (0 : Int32)), (.ref b1)])) _
    refine XS.iloadN X2.here hx rfl (hb hby at_8) rfl ?_
    show Steps p.tables e below (T2.setTop (mkF m 9 #[.val (.int x0), .val (.int x1), .val (.int x2), .val (.int x3), .val (.int xf), .val (.ref b1), .unset, .unset, .unset, .unset] [(.int x0), (.int (0 : Int32)), (.ref b1)])) _
    exact kt)
  obtain ⟨_, _, ⟨T8, L8, k8, n8⟩, -, X8, ⟨Lc8, hQ8, l8, y8, z8⟩, ls8⟩ := Jvm.LawKit.callS X2 hx (y := (⟨"com/example/datumbridge/datumbridge/cli/InputLinesFieldEndPinLaw", "draw", "(I)C"⟩ : MethodName)) hown (mvT hZ (hw _ (List.mem_of_getElem? (i := 1) rfl))) (mvT hZ (hw _ (List.mem_of_getElem? (i := 2) rfl))) (mvT hZ (hw _ (List.mem_of_getElem? (i := 3) rfl))) (mvT hZ (hw _ (List.mem_of_getElem? (i := 4) rfl))) (by decide) (backOf (W := 2) (rm_draw l Z a0 hw [] x0 h2 n0 z4) hZ (hw _ (List.mem_of_getElem? (i := 4) rfl)) (hw _ (List.mem_of_getElem? (i := 3) rfl)) (by decide) (by decide)) (g := (mkF m 9 #[.val (.int x0), .val (.int x1), .val (.int x2), .val (.int x3), .val (.int xf), .val (.ref b1), .unset, .unset, .unset, .unset] [(.int x0), (.int (0 : Int32)), (.ref b1)])) rfl (by rw [hml]; rfl) (argsL := [(.int x0)]) (rest := [(.int (0 : Int32)), (.ref b1)]) (lenOf own_pd1 rfl) rfl (by show 2 * 0 + _ ≤ _; exact Nat.le_of_eq rfl) (hb hby at_9) (fun _ _ => ⟨rfl, e2, (by decide : 1 + 0 ≤ _), (by decide : 4 + 0 ≤ _)⟩)
  dsimp only [Pt.U, Pt.locs, Pt.cells, Pt.slots] at X8 l8 y8 z8 ls8 hQ8
  subst l8 y8 z8
  obtain ⟨rfl, Nq8, eq8⟩ := hQ8
  have N8 := Fr.app N0 Nq8
  have st9 : own_Go p e below (T8.setTop (mkF m 12 #[.val (.int x0), .val (.int x1), .val (.int x2), .val (.int x3), .val (.int xf), .val (.ref b1), .unset, .unset, .unset, .unset] [(.int (own_draw x0)), (.int (0 : Int32)), (.ref b1)])) (s₁.setTop (entryFrame m #[(.int x0), (.int x1), (.int x2), (.int x3), (.int xf)] maxLocals)) := fun t kt => st7 t (ls8 t kt)
  have st10 : own_Go p e below (T8.setTop (mkF m 12 #[.val (.int x0), .val (.int x1), .val (.int x2), .val (.int x3), .val (.int xf), .val (.ref b1), .unset, .unset, .unset, .unset] [(.int ch0), (.int (0 : Int32)), (.ref b1)])) (s₁.setTop (entryFrame m #[(.int x0), (.int x1), (.int x2), (.int x3), (.int xf)] maxLocals)) := fun t kt => st9 t (by
    show Steps p.tables e below (T8.setTop (mkF m 12 #[.val (.int x0), .val (.int x1), .val (.int x2), .val (.int x3), .val (.int xf), .val (.ref b1), .unset, .unset, .unset, .unset] [(.int (own_draw x0)), (.int (0 : Int32)), (.ref b1)])) _
    rw [show (own_draw x0) = ch0 from (h_c0.symm)]
    show Steps p.tables e below (T8.setTop (mkF m 12 #[.val (.int x0), .val (.int x1), .val (.int x2), .val (.int x3), .val (.int xf), .val (.ref b1), .unset, .unset, .unset, .unset] [(.int ch0), (.int (0 : Int32)), (.ref b1)])) _
    exact kt)
  obtain ⟨T11, h11, X11, e11, W11, B11, ls11⟩ := own_castore X8 hx hZ eq8 f5 (j := (0 : Int32)) (i := 0) (by decide) (by decide) (by decide) (g := (mkF m 12 #[.val (.int x0), .val (.int x1), .val (.int x2), .val (.int x3), .val (.int xf), .val (.ref b1), .unset, .unset, .unset, .unset] [(.int ch0), (.int (0 : Int32)), (.ref b1)])) rfl rfl (hb hby at_12)
  have N11 := Fr.snoc X11 N8 g_b1
  have f12 := f3.wr W11 g_b1
  have z13 := Nat.le_trans z4 (Keep.of_wr W11).1
  have f14 := B11
  have st15 : own_Go p e below (T11.setTop (mkF m 13 #[.val (.int x0), .val (.int x1), .val (.int x2), .val (.int x3), .val (.int xf), .val (.ref b1), .unset, .unset, .unset, .unset] [])) (s₁.setTop (entryFrame m #[(.int x0), (.int x1), (.int x2), (.int x3), (.int xf)] maxLocals)) := fun t kt => st10 t (ls11 t kt)
  have st16 : own_Go p e below (T11.setTop (mkF m 17 #[.val (.int x0), .val (.int x1), .val (.int x2), .val (.int x3), .val (.int xf), .val (.ref b1), .unset, .unset, .unset, .unset] [(.int x1), (.int (1 : Int32)), (.ref b1)])) (s₁.setTop (entryFrame m #[(.int x0), (.int x1), (.int x2), (.int x3), (.int xf)] maxLocals)) := fun t kt => st15 t (by
    show Steps p.tables e below (T11.setTop (mkF m 13 #[.val (.int x0), .val (.int x1), .val (.int x2), .val (.int x3), .val (.int xf), .val (.ref b1), .unset, .unset, .unset, .unset] [])) _
    refine XS.aload X11.here hx rfl (hb hby at_13) rfl rfl ?_
    show Steps p.tables e below (T11.setTop (mkF m 15 #[.val (.int x0), .val (.int x1), .val (.int x2), .val (.int x3), .val (.int xf), .val (.ref b1), .unset, .unset, .unset, .unset] [(.ref b1)])) _
    refine XS.iconst X11.here hx rfl (hb hby at_15) ?_
    show Steps p.tables e below (T11.setTop (mkF m 16 #[.val (.int x0), .val (.int x1), .val (.int x2), .val (.int x3), .val (.int xf), .val (.ref b1), .unset, .unset, .unset, .unset] [(.int (1 : Int32)), (.ref b1)])) _
    refine XS.iloadN X11.here hx rfl (hb hby at_16) rfl ?_
    show Steps p.tables e below (T11.setTop (mkF m 17 #[.val (.int x0), .val (.int x1), .val (.int x2), .val (.int x3), .val (.int xf), .val (.ref b1), .unset, .unset, .unset, .unset] [(.int x1), (.int (1 : Int32)), (.ref b1)])) _
    exact kt)
  obtain ⟨_, _, ⟨T17, L17, k17, n17⟩, -, X17, ⟨Lc17, hQ17, l17, y17, z17⟩, ls17⟩ := Jvm.LawKit.callS X11 hx (y := (⟨"com/example/datumbridge/datumbridge/cli/InputLinesFieldEndPinLaw", "draw", "(I)C"⟩ : MethodName)) hown (mvT hZ (hw _ (List.mem_of_getElem? (i := 1) rfl))) (mvT hZ (hw _ (List.mem_of_getElem? (i := 2) rfl))) (mvT hZ (hw _ (List.mem_of_getElem? (i := 3) rfl))) (mvT hZ (hw _ (List.mem_of_getElem? (i := 4) rfl))) (by decide) (backOf (W := 2) (rm_draw l Z a0 hw [] x1 h11 n0 z13) hZ (hw _ (List.mem_of_getElem? (i := 4) rfl)) (hw _ (List.mem_of_getElem? (i := 3) rfl)) (by decide) (by decide)) (g := (mkF m 17 #[.val (.int x0), .val (.int x1), .val (.int x2), .val (.int x3), .val (.int xf), .val (.ref b1), .unset, .unset, .unset, .unset] [(.int x1), (.int (1 : Int32)), (.ref b1)])) rfl (by rw [hml]; rfl) (argsL := [(.int x1)]) (rest := [(.int (1 : Int32)), (.ref b1)]) (lenOf own_pd1 rfl) rfl (by show 2 * 0 + _ ≤ _; exact Nat.le_of_eq rfl) (hb hby at_17) (fun _ _ => ⟨rfl, e11, (by decide : 1 + 0 ≤ _), (by decide : 4 + 0 ≤ _)⟩)
  dsimp only [Pt.U, Pt.locs, Pt.cells, Pt.slots] at X17 l17 y17 z17 ls17 hQ17
  subst l17 y17 z17
  obtain ⟨rfl, Nq17, eq17⟩ := hQ17
  have N17 := Fr.app N11 Nq17
  have st18 : own_Go p e below (T17.setTop (mkF m 20 #[.val (.int x0), .val (.int x1), .val (.int x2), .val (.int x3), .val (.int xf), .val (.ref b1), .unset, .unset, .unset, .unset] [(.int (own_draw x1)), (.int (1 : Int32)), (.ref b1)])) (s₁.setTop (entryFrame m #[(.int x0), (.int x1), (.int x2), (.int x3), (.int xf)] maxLocals)) := fun t kt => st16 t (ls17 t kt)
  have st19 : own_Go p e below (T17.setTop (mkF m 20 #[.val (.int x0), .val (.int x1), .val (.int x2), .val (.int x3), .val (.int xf), .val (.ref b1), .unset, .unset, .unset, .unset] [(.int ch1), (.int (1 : Int32)), (.ref b1)])) (s₁.setTop (entryFrame m #[(.int x0), (.int x1), (.int x2), (.int x3), (.int xf)] maxLocals)) := fun t kt => st18 t (by
    show Steps p.tables e below (T17.setTop (mkF m 20 #[.val (.int x0), .val (.int x1), .val (.int x2), .val (.int x3), .val (.int xf), .val (.ref b1), .unset, .unset, .unset, .unset] [(.int (own_draw x1)), (.int (1 : Int32)), (.ref b1)])) _
    rw [show (own_draw x1) = ch1 from (h_c1.symm)]
    show Steps p.tables e below (T17.setTop (mkF m 20 #[.val (.int x0), .val (.int x1), .val (.int x2), .val (.int x3), .val (.int xf), .val (.ref b1), .unset, .unset, .unset, .unset] [(.int ch1), (.int (1 : Int32)), (.ref b1)])) _
    exact kt)
  obtain ⟨T20, h20, X20, e20, W20, B20, ls20⟩ := own_castore X17 hx hZ eq17 f14 (j := (1 : Int32)) (i := 1) (by decide) (by decide) (by decide) (g := (mkF m 20 #[.val (.int x0), .val (.int x1), .val (.int x2), .val (.int x3), .val (.int xf), .val (.ref b1), .unset, .unset, .unset, .unset] [(.int ch1), (.int (1 : Int32)), (.ref b1)])) rfl rfl (hb hby at_20)
  have N20 := Fr.snoc X20 N17 g_b1
  have f21 := f12.wr W20 g_b1
  have z22 := Nat.le_trans z13 (Keep.of_wr W20).1
  have f23 := B20
  have st24 : own_Go p e below (T20.setTop (mkF m 21 #[.val (.int x0), .val (.int x1), .val (.int x2), .val (.int x3), .val (.int xf), .val (.ref b1), .unset, .unset, .unset, .unset] [])) (s₁.setTop (entryFrame m #[(.int x0), (.int x1), (.int x2), (.int x3), (.int xf)] maxLocals)) := fun t kt => st19 t (ls20 t kt)
  have st25 : own_Go p e below (T20.setTop (mkF m 25 #[.val (.int x0), .val (.int x1), .val (.int x2), .val (.int x3), .val (.int xf), .val (.ref b1), .unset, .unset, .unset, .unset] [(.int x2), (.int (2 : Int32)), (.ref b1)])) (s₁.setTop (entryFrame m #[(.int x0), (.int x1), (.int x2), (.int x3), (.int xf)] maxLocals)) := fun t kt => st24 t (by
    show Steps p.tables e below (T20.setTop (mkF m 21 #[.val (.int x0), .val (.int x1), .val (.int x2), .val (.int x3), .val (.int xf), .val (.ref b1), .unset, .unset, .unset, .unset] [])) _
    refine XS.aload X20.here hx rfl (hb hby at_21) rfl rfl ?_
    show Steps p.tables e below (T20.setTop (mkF m 23 #[.val (.int x0), .val (.int x1), .val (.int x2), .val (.int x3), .val (.int xf), .val (.ref b1), .unset, .unset, .unset, .unset] [(.ref b1)])) _
    refine XS.iconst X20.here hx rfl (hb hby at_23) ?_
    show Steps p.tables e below (T20.setTop (mkF m 24 #[.val (.int x0), .val (.int x1), .val (.int x2), .val (.int x3), .val (.int xf), .val (.ref b1), .unset, .unset, .unset, .unset] [(.int (2 : Int32)), (.ref b1)])) _
    refine XS.iloadN X20.here hx rfl (hb hby at_24) rfl ?_
    show Steps p.tables e below (T20.setTop (mkF m 25 #[.val (.int x0), .val (.int x1), .val (.int x2), .val (.int x3), .val (.int xf), .val (.ref b1), .unset, .unset, .unset, .unset] [(.int x2), (.int (2 : Int32)), (.ref b1)])) _
    exact kt)
  obtain ⟨_, _, ⟨T26, L26, k26, n26⟩, -, X26, ⟨Lc26, hQ26, l26, y26, z26⟩, ls26⟩ := Jvm.LawKit.callS X20 hx (y := (⟨"com/example/datumbridge/datumbridge/cli/InputLinesFieldEndPinLaw", "draw", "(I)C"⟩ : MethodName)) hown (mvT hZ (hw _ (List.mem_of_getElem? (i := 1) rfl))) (mvT hZ (hw _ (List.mem_of_getElem? (i := 2) rfl))) (mvT hZ (hw _ (List.mem_of_getElem? (i := 3) rfl))) (mvT hZ (hw _ (List.mem_of_getElem? (i := 4) rfl))) (by decide) (backOf (W := 2) (rm_draw l Z a0 hw [] x2 h20 n0 z22) hZ (hw _ (List.mem_of_getElem? (i := 4) rfl)) (hw _ (List.mem_of_getElem? (i := 3) rfl)) (by decide) (by decide)) (g := (mkF m 25 #[.val (.int x0), .val (.int x1), .val (.int x2), .val (.int x3), .val (.int xf), .val (.ref b1), .unset, .unset, .unset, .unset] [(.int x2), (.int (2 : Int32)), (.ref b1)])) rfl (by rw [hml]; rfl) (argsL := [(.int x2)]) (rest := [(.int (2 : Int32)), (.ref b1)]) (lenOf own_pd1 rfl) rfl (by show 2 * 0 + _ ≤ _; exact Nat.le_of_eq rfl) (hb hby at_25) (fun _ _ => ⟨rfl, e20, (by decide : 1 + 0 ≤ _), (by decide : 4 + 0 ≤ _)⟩)
  dsimp only [Pt.U, Pt.locs, Pt.cells, Pt.slots] at X26 l26 y26 z26 ls26 hQ26
  subst l26 y26 z26
  obtain ⟨rfl, Nq26, eq26⟩ := hQ26
  have N26 := Fr.app N20 Nq26
  have st27 : own_Go p e below (T26.setTop (mkF m 28 #[.val (.int x0), .val (.int x1), .val (.int x2), .val (.int x3), .val (.int xf), .val (.ref b1), .unset, .unset, .unset, .unset] [(.int (own_draw x2)), (.int (2 : Int32)), (.ref b1)])) (s₁.setTop (entryFrame m #[(.int x0), (.int x1), (.int x2), (.int x3), (.int xf)] maxLocals)) := fun t kt => st25 t (ls26 t kt)
  have st28 : own_Go p e below (T26.setTop (mkF m 28 #[.val (.int x0), .val (.int x1), .val (.int x2), .val (.int x3), .val (.int xf), .val (.ref b1), .unset, .unset, .unset, .unset] [(.int ch2), (.int (2 : Int32)), (.ref b1)])) (s₁.setTop (entryFrame m #[(.int x0), (.int x1), (.int x2), (.int x3), (.int xf)] maxLocals)) := fun t kt => st27 t (by
    show Steps p.tables e below (T26.setTop (mkF m 28 #[.val (.int x0), .val (.int x1), .val (.int x2), .val (.int x3), .val (.int xf), .val (.ref b1), .unset, .unset, .unset, .unset] [(.int (own_draw x2)), (.int (2 : Int32)), (.ref b1)])) _
    rw [show (own_draw x2) = ch2 from (h_c2.symm)]
    show Steps p.tables e below (T26.setTop (mkF m 28 #[.val (.int x0), .val (.int x1), .val (.int x2), .val (.int x3), .val (.int xf), .val (.ref b1), .unset, .unset, .unset, .unset] [(.int ch2), (.int (2 : Int32)), (.ref b1)])) _
    exact kt)
  obtain ⟨T29, h29, X29, e29, W29, B29, ls29⟩ := own_castore X26 hx hZ eq26 f23 (j := (2 : Int32)) (i := 2) (by decide) (by decide) (by decide) (g := (mkF m 28 #[.val (.int x0), .val (.int x1), .val (.int x2), .val (.int x3), .val (.int xf), .val (.ref b1), .unset, .unset, .unset, .unset] [(.int ch2), (.int (2 : Int32)), (.ref b1)])) rfl rfl (hb hby at_28)
  have N29 := Fr.snoc X29 N26 g_b1
  have f30 := f21.wr W29 g_b1
  have z31 := Nat.le_trans z22 (Keep.of_wr W29).1
  have f32 := B29
  have st33 : own_Go p e below (T29.setTop (mkF m 29 #[.val (.int x0), .val (.int x1), .val (.int x2), .val (.int x3), .val (.int xf), .val (.ref b1), .unset, .unset, .unset, .unset] [])) (s₁.setTop (entryFrame m #[(.int x0), (.int x1), (.int x2), (.int x3), (.int xf)] maxLocals)) := fun t kt => st28 t (ls29 t kt)
  have st34 : own_Go p e below (T29.setTop (mkF m 33 #[.val (.int x0), .val (.int x1), .val (.int x2), .val (.int x3), .val (.int xf), .val (.ref b1), .unset, .unset, .unset, .unset] [(.int x3), (.int (3 : Int32)), (.ref b1)])) (s₁.setTop (entryFrame m #[(.int x0), (.int x1), (.int x2), (.int x3), (.int xf)] maxLocals)) := fun t kt => st33 t (by
    show Steps p.tables e below (T29.setTop (mkF m 29 #[.val (.int x0), .val (.int x1), .val (.int x2), .val (.int x3), .val (.int xf), .val (.ref b1), .unset, .unset, .unset, .unset] [])) _
    refine XS.aload X29.here hx rfl (hb hby at_29) rfl rfl ?_
    show Steps p.tables e below (T29.setTop (mkF m 31 #[.val (.int x0), .val (.int x1), .val (.int x2), .val (.int x3), .val (.int xf), .val (.ref b1), .unset, .unset, .unset, .unset] [(.ref b1)])) _
    refine XS.iconst X29.here hx rfl (hb hby at_31) ?_
    show Steps p.tables e below (T29.setTop (mkF m 32 #[.val (.int x0), .val (.int x1), .val (.int x2), .val (.int x3), .val (.int xf), .val (.ref b1), .unset, .unset, .unset, .unset] [(.int (3 : Int32)), (.ref b1)])) _
    refine XS.iloadN X29.here hx rfl (hb hby at_32) rfl ?_
    show Steps p.tables e below (T29.setTop (mkF m 33 #[.val (.int x0), .val (.int x1), .val (.int x2), .val (.int x3), .val (.int xf), .val (.ref b1), .unset, .unset, .unset, .unset] [(.int x3), (.int (3 : Int32)), (.ref b1)])) _
    exact kt)
  obtain ⟨_, _, ⟨T35, L35, k35, n35⟩, -, X35, ⟨Lc35, hQ35, l35, y35, z35⟩, ls35⟩ := Jvm.LawKit.callS X29 hx (y := (⟨"com/example/datumbridge/datumbridge/cli/InputLinesFieldEndPinLaw", "draw", "(I)C"⟩ : MethodName)) hown (mvT hZ (hw _ (List.mem_of_getElem? (i := 1) rfl))) (mvT hZ (hw _ (List.mem_of_getElem? (i := 2) rfl))) (mvT hZ (hw _ (List.mem_of_getElem? (i := 3) rfl))) (mvT hZ (hw _ (List.mem_of_getElem? (i := 4) rfl))) (by decide) (backOf (W := 2) (rm_draw l Z a0 hw [] x3 h29 n0 z31) hZ (hw _ (List.mem_of_getElem? (i := 4) rfl)) (hw _ (List.mem_of_getElem? (i := 3) rfl)) (by decide) (by decide)) (g := (mkF m 33 #[.val (.int x0), .val (.int x1), .val (.int x2), .val (.int x3), .val (.int xf), .val (.ref b1), .unset, .unset, .unset, .unset] [(.int x3), (.int (3 : Int32)), (.ref b1)])) rfl (by rw [hml]; rfl) (argsL := [(.int x3)]) (rest := [(.int (3 : Int32)), (.ref b1)]) (lenOf own_pd1 rfl) rfl (by show 2 * 0 + _ ≤ _; exact Nat.le_of_eq rfl) (hb hby at_33) (fun _ _ => ⟨rfl, e29, (by decide : 1 + 0 ≤ _), (by decide : 4 + 0 ≤ _)⟩)
  dsimp only [Pt.U, Pt.locs, Pt.cells, Pt.slots] at X35 l35 y35 z35 ls35 hQ35
  subst l35 y35 z35
  obtain ⟨rfl, Nq35, eq35⟩ := hQ35
  have N35 := Fr.app N29 Nq35
  have st36 : own_Go p e below (T35.setTop (mkF m 36 #[.val (.int x0), .val (.int x1), .val (.int x2), .val (.int x3), .val (.int xf), .val (.ref b1), .unset, .unset, .unset, .unset] [(.int (own_draw x3)), (.int (3 : Int32)), (.ref b1)])) (s₁.setTop (entryFrame m #[(.int x0), (.int x1), (.int x2), (.int x3), (.int xf)] maxLocals)) := fun t kt => st34 t (ls35 t kt)
  have st37 : own_Go p e below (T35.setTop (mkF m 36 #[.val (.int x0), .val (.int x1), .val (.int x2), .val (.int x3), .val (.int xf), .val (.ref b1), .unset, .unset, .unset, .unset] [(.int ch3), (.int (3 : Int32)), (.ref b1)])) (s₁.setTop (entryFrame m #[(.int x0), (.int x1), (.int x2), (.int x3), (.int xf)] maxLocals)) := fun t kt => st36 t (by
    show Steps p.tables e below (T35.setTop (mkF m 36 #[.val (.int x0), .val (.int x1), .val (.int x2), .val (.int x3), .val (.int xf), .val (.ref b1), .unset, .unset, .unset, .unset] [(.int (own_draw x3)), (.int (3 : Int32)), (.ref b1)])) _
    rw [show (own_draw x3) = ch3 from (h_c3.symm)]
    show Steps p.tables e below (T35.setTop (mkF m 36 #[.val (.int x0), .val (.int x1), .val (.int x2), .val (.int x3), .val (.int xf), .val (.ref b1), .unset, .unset, .unset, .unset] [(.int ch3), (.int (3 : Int32)), (.ref b1)])) _
    exact kt)
  obtain ⟨T38, h38, X38, e38, W38, B38, ls38⟩ := own_castore X35 hx hZ eq35 f32 (j := (3 : Int32)) (i := 3) (by decide) (by decide) (by decide) (g := (mkF m 36 #[.val (.int x0), .val (.int x1), .val (.int x2), .val (.int x3), .val (.int xf), .val (.ref b1), .unset, .unset, .unset, .unset] [(.int ch3), (.int (3 : Int32)), (.ref b1)])) rfl rfl (hb hby at_36)
  have N38 := Fr.snoc X38 N35 g_b1
  have f39 := f30.wr W38 g_b1
  have z40 := Nat.le_trans z31 (Keep.of_wr W38).1
  have f41 := B38.congr (g := (fun q => .int (([ch0, ch1, ch2, ch3] : List Int32).getD q 0))) (fun q hq => match q, hq with | 0, _ => congrArg Value.int (own_char hb0) | 1, _ => congrArg Value.int (own_char hb1) | 2, _ => congrArg Value.int (own_char hb2) | 3, _ => congrArg Value.int (own_char hb3) | _ + 4, z => absurd z (by omega))
  have st42 : own_Go p e below (T38.setTop (mkF m 37 #[.val (.int x0), .val (.int x1), .val (.int x2), .val (.int x3), .val (.int xf), .val (.ref b1), .unset, .unset, .unset, .unset] [])) (s₁.setTop (entryFrame m #[(.int x0), (.int x1), (.int x2), (.int x3), (.int xf)] maxLocals)) := fun t kt => st37 t (ls38 t kt)
  obtain ⟨T43, h43, X43, e43, E43, A43, D43, -, ls43⟩ := newO X38 hx hZ hown (hw _ (List.mem_of_getElem? (i := 5) rfl)) (hw _ (List.mem_of_getElem? (i := 6) rfl)) (hw _ (List.mem_of_getElem? (i := 7) rfl)) e38 (g := (mkF m 37 #[.val (.int x0), .val (.int x1), .val (.int x2), .val (.int x3), .val (.int xf), .val (.ref b1), .unset, .unset, .unset, .unset] [])) rfl (hb hby at_37) (by decide) (by decide)
  obtain ⟨b2, g43⟩ : ∃ z, z = h38.size := ⟨_, rfl⟩
  rw [← g43] at A43 D43 ls43
  have ne_b1_b2 : b1 ≠ b2 := Nat.ne_of_lt (Nat.lt_of_lt_of_le f41.lt (Nat.le_of_eq g43.symm))
  have g_b2 : n0 ≤ b2 := Nat.le_trans z40 (Nat.le_of_eq g43.symm)
  have f44 := f39.ext E43
  have f45 := f41.ext E43
  have z46 := Nat.le_trans z40 E43.1
  have f47 : Fld Z h43 b2 "java/lang/String" "coder" "B" (.int (0 : Int32)) := D43 (Or.inr (hw _ (List.mem_of_getElem? (i := 31) rfl))) (ty := .byte) (by decide)
  have f48 : Fld Z h43 b2 "java/lang/String" "value" "[B" .null := D43 (Or.inr (hw _ (List.mem_of_getElem? (i := 33) rfl))) (ty := (.array .byte)) (by decide)
  have st49 : own_Go p e below (T43.setTop (mkF m 40 #[.val (.int x0), .val (.int x1), .val (.int x2), .val (.int x3), .val (.int xf), .val (.ref b1), .unset, .unset, .unset, .unset] [(.ref b2)])) (s₁.setTop (entryFrame m #[(.int x0), (.int x1), (.int x2), (.int x3), (.int xf)] maxLocals)) := fun t kt => st42 t (ls43 t kt)
  have hp : ∀ c ∈ ([ch0, ch1, ch2, ch3] : List Int32), ¬ c < 0 ∧ ¬ (255 : Int32) < c := by
    intro c hc
    simp only [List.mem_cons, List.not_mem_nil, or_false] at hc
    rcases hc with rfl | rfl | rfl | rfl
    · exact hb0
    · exact hb1
    · exact hb2
    · exact hb3
  have hws : ∀ d ∈ StrChars.Road.words, d.before a0 Z = true := fun d hd => hw d ((by decide +kernel : ∀ d ∈ StrChars.Road.words, d ∈ tables_1) d hd)
  obtain ⟨kC, A_b1⟩ := f45.arv (.int 0) (fun q hq => match q, hq with | 0, _ => own_fit hb0 | 1, _ => own_fit hb1 | 2, _ => own_fit hb2 | 3, _ => own_fit hb3 | _ + 4, z => absurd z (by omega))
  have V_b1 : Arv Z h43 b1 kC .char (Int32.ofNat 4) (([ch0, ch1, ch2, ch3] : List Int32).map Value.int) (.int 0) := A_b1
  have st50 : own_Go p e below (T43.setTop (mkF m 43 #[.val (.int x0), .val (.int x1), .val (.int x2), .val (.int x3), .val (.int xf), .val (.ref b1), .unset, .unset, .unset, .unset] [(.ref b1), (.ref b2), (.ref b2)])) (s₁.setTop (entryFrame m #[(.int x0), (.int x1), (.int x2), (.int x3), (.int xf)] maxLocals)) := fun t kt => st49 t (by
    show Steps p.tables e below (T43.setTop (mkF m 40 #[.val (.int x0), .val (.int x1), .val (.int x2), .val (.int x3), .val (.int xf), .val (.ref b1), .unset, .unset, .unset, .unset] [(.ref b2)])) _
    refine XS.dup X43.here hx rfl (hb hby at_40) rfl rfl ?_
    show Steps p.tables e below (T43.setTop (mkF m 41 #[.val (.int x0), .val (.int x1), .val (.int x2), .val (.int x3), .val (.int xf), .val (.ref b1), .unset, .unset, .unset, .unset] [(.ref b2), (.ref b2)])) _
    refine XS.aload X43.here hx rfl (hb hby at_41) rfl rfl ?_
    show Steps p.tables e below (T43.setTop (mkF m 43 #[.val (.int x0), .val (.int x1), .val (.int x2), .val (.int x3), .val (.int xf), .val (.ref b1), .unset, .unset, .unset, .unset] [(.ref b1), (.ref b2), (.ref b2)])) _
    exact kt)
  obtain ⟨_, _, ⟨T51, L51, k51, n51⟩, -, X51, ⟨Lc51, hQ51, l51, y51, z51⟩, ls51⟩ := X43.specialBack hx (y := (⟨"java/lang/String", "<init>", "([C)V"⟩ : MethodName)) rfl hown (mvT hZ (hw _ (List.mem_of_getElem? (i := 8) rfl))) (mvT hZ (hw _ (List.mem_of_getElem? (i := 9) rfl))) (mvT hZ (hw _ (List.mem_of_getElem? (i := 10) rfl))) (by decide) (StrChars.Road.backV (W := 1) hZ hws (kI := 4) (hw _ (List.mem_of_getElem? (i := 6) rfl)) (cs := ([ch0, ch1, ch2, ch3] : List Int32)) (bs := ([ch0, ch1, ch2, ch3] : List Int32).map (fun c => c.toInt8.toInt32)) (n := 4) g_b2 z46 A43 f48 f47 V_b1 (O2.ext f44.2) P5 rfl rfl (by decide) (by decide) hp rfl (by decide) (by decide)) (g := (mkF m 43 #[.val (.int x0), .val (.int x1), .val (.int x2), .val (.int x3), .val (.int xf), .val (.ref b1), .unset, .unset, .unset, .unset] [(.ref b1), (.ref b2), (.ref b2)])) rfl (by rw [hml]; rfl) (Steps.refl _) (a := b2) (argsL := [(.ref b1)]) (rest := [(.ref b2)]) (lenOf own_pd3 rfl) rfl (by show 2 * 0 + _ ≤ _; exact Nat.le_of_eq rfl) (hb hby at_43) (fun _ _ => ⟨rfl, e43, (by decide : 2 + 1 ≤ _), (by decide : 8 + 4 ≤ _)⟩)
  dsimp only [Pt.U, Pt.locs, Pt.cells, Pt.slots] at X51 l51 y51 z51 ls51 hQ51
  subst l51 y51 z51
  obtain ⟨rfl, Nq51, Kq51, Eq51, Cq51, tq51, kq51, -, -, -, Vq51, Aq51⟩ := hQ51
  have N51 := Fr.app N38 Nq51
  have f52 := f44.keep Kq51 (allS (P := fun x => n0 ≤ x) g_b2 all0)
  have f53 := f45.keep Kq51 (ninS ne_b1_b2 nin0)
  have f54 := A43.keep Kq51
  have z57 := Nat.le_trans z46 Kq51.1
  have st58 : own_Go p e below (T51.setTop (mkF m 46 #[.val (.int x0), .val (.int x1), .val (.int x2), .val (.int x3), .val (.int xf), .val (.ref b1), .unset, .unset, .unset, .unset] [(.ref b2)])) (s₁.setTop (entryFrame m #[(.int x0), (.int x1), (.int x2), (.int x3), (.int xf)] maxLocals)) := fun t kt => st50 t (ls51.trans kt)
  obtain ⟨fr, h_fr⟩ : ∃ z : Int32, z = ((xf &&& (2147483647 : Int32)) % (6 : Int32)) := ⟨_, rfl⟩
  have st59 : own_Go p e below (T51.setTop (mkF m 64 #[.val (.int x0), .val (.int x1), .val (.int x2), .val (.int x3), .val (.int xf), .val (.ref b1), .val (.ref b2), .val (.int fr), .val (.int (4 : Int32)), .unset] [(.int (3 : Int32)), (.int fr)])) (s₁.setTop (entryFrame m #[(.int x0), (.int x1), (.int x2), (.int x3), (.int xf)] maxLocals)) := fun t kt => st58 t (by
    show Steps p.tables e below (T51.setTop (mkF m 46 #[.val (.int x0), .val (.int x1), .val (.int x2), .val (.int x3), .val (.int xf), .val (.ref b1), .unset, .unset, .unset, .unset] [(.ref b2)])) _
    refine XS.astore X51.here hx rfl (hb hby at_46) rfl rfl (l' := #[.val (.int x0), .val (.int x1), .val (.int x2), .val (.int x3), .val (.int xf), .val (.ref b1), .val (.ref b2), .unset, .unset, .unset]) rfl ?_
    show Steps p.tables e below (T51.setTop (mkF m 48 #[.val (.int x0), .val (.int x1), .val (.int x2), .val (.int x3), .val (.int xf), .val (.ref b1), .val (.ref b2), .unset, .unset, .unset] [])) _
    refine XS.iload X51.here hx rfl (hb hby at_48) rfl ?_
    show Steps p.tables e below (T51.setTop (mkF m 50 #[.val (.int x0), .val (.int x1), .val (.int x2), .val (.int x3), .val (.int xf), .val (.ref b1), .val (.ref b2), .unset, .unset, .unset] [(.int xf)])) _
    refine X51.ldcInt hx hown (mvT hZ (hw _ (List.mem_of_getElem? (i := 34) rfl))) (g := (mkF m 50 #[.val (.int x0), .val (.int x1), .val (.int x2), .val (.int x3), .val (.int xf), .val (.ref b1), .val (.ref b2), .unset, .unset, .unset] [(.int xf)])) rfl (hb hby at_50) _ ?_
    show Steps p.tables e below (T51.setTop (mkF m 52 #[.val (.int x0), .val (.int x1), .val (.int x2), .val (.int x3), .val (.int xf), .val (.ref b1), .val (.ref b2), .unset, .unset, .unset] [(.int (2147483647 : Int32)), (.int xf)])) _
    refine XS.iand X51.here hx rfl (hb hby at_52) rfl ?_
    show Steps p.tables e below (T51.setTop (mkF m 53 #[.val (.int x0), .val (.int x1), .val (.int x2), .val (.int x3), .val (.int xf), .val (.ref b1), .val (.ref b2), .unset, .unset, .unset] [(.int (xf &&& (2147483647 : Int32)))])) _
    refine XS.bipush X51.here hx rfl (hb hby at_53) ?_
    show Steps p.tables e below (T51.setTop (mkF m 55 #[.val (.int x0), .val (.int x1), .val (.int x2), .val (.int x3), .val (.int xf), .val (.ref b1), .val (.ref b2), .unset, .unset, .unset] [(.int (6 : Int32)), (.int (xf &&& (2147483647 : Int32)))])) _
    refine iremM X51 hx rfl (hb hby at_55) rfl (by decide) ?_
    show Steps p.tables e below (T51.setTop (mkF m 56 #[.val (.int x0), .val (.int x1), .val (.int x2), .val (.int x3), .val (.int xf), .val (.ref b1), .val (.ref b2), .unset, .unset, .unset] [(.int ((xf &&& (2147483647 : Int32)) % (6 : Int32)))])) _
    rw [← h_fr]
    show Steps p.tables e below (T51.setTop (mkF m 56 #[.val (.int x0), .val (.int x1), .val (.int x2), .val (.int x3), .val (.int xf), .val (.ref b1), .val (.ref b2), .unset, .unset, .unset] [(.int fr)])) _
    refine XS.istore X51.here hx rfl (hb hby at_56) rfl (l' := #[.val (.int x0), .val (.int x1), .val (.int x2), .val (.int x3), .val (.int xf), .val (.ref b1), .val (.ref b2), .val (.int fr), .unset, .unset]) rfl ?_
    show Steps p.tables e below (T51.setTop (mkF m 58 #[.val (.int x0), .val (.int x1), .val (.int x2), .val (.int x3), .val (.int xf), .val (.ref b1), .val (.ref b2), .val (.int fr), .unset, .unset] [])) _
    refine XS.iconst X51.here hx rfl (hb hby at_58) ?_
    show Steps p.tables e below (T51.setTop (mkF m 59 #[.val (.int x0), .val (.int x1), .val (.int x2), .val (.int x3), .val (.int xf), .val (.ref b1), .val (.ref b2), .val (.int fr), .unset, .unset] [(.int (4 : Int32))])) _
    refine XS.istore X51.here hx rfl (hb hby at_59) rfl (l' := #[.val (.int x0), .val (.int x1), .val (.int x2), .val (.int x3), .val (.int xf), .val (.ref b1), .val (.ref b2), .val (.int fr), .val (.int (4 : Int32)), .unset]) rfl ?_
    show Steps p.tables e below (T51.setTop (mkF m 61 #[.val (.int x0), .val (.int x1), .val (.int x2), .val (.int x3), .val (.int xf), .val (.ref b1), .val (.ref b2), .val (.int fr), .val (.int (4 : Int32)), .unset] [])) _
    refine XS.iload X51.here hx rfl (hb hby at_61) rfl ?_
    show Steps p.tables e below (T51.setTop (mkF m 63 #[.val (.int x0), .val (.int x1), .val (.int x2), .val (.int x3), .val (.int xf), .val (.ref b1), .val (.ref b2), .val (.int fr), .val (.int (4 : Int32)), .unset] [(.int fr)])) _
    refine XS.iconst X51.here hx rfl (hb hby at_63) ?_
    show Steps p.tables e below (T51.setTop (mkF m 64 #[.val (.int x0), .val (.int x1), .val (.int x2), .val (.int x3), .val (.int xf), .val (.ref b1), .val (.ref b2), .val (.int fr), .val (.int (4 : Int32)), .unset] [(.int (3 : Int32)), (.int fr)])) _
    exact kt)
  obtain ⟨ex3, T60, L60, X60, e60, N60, hj60, st60⟩ : ∃ (ex3 : Int32) (T60 : State) (L' : List Loc), Stand p l e room_1 s m #[(.int x0), (.int x1), (.int x2), (.int x3), (.int xf)] below meth c T60 L' 3 12 ∧ T60.heap = T51.heap ∧ Fr n0 L' ∧ (ex3 = own_e3 fr ch3) ∧ own_Go p e below (T60.setTop (mkF m 80 #[.val (.int x0), .val (.int x1), .val (.int x2), .val (.int x3), .val (.int xf), .val (.ref b1), .val (.ref b2), .val (.int fr), .val (.int ex3), .unset] [])) (s₁.setTop (entryFrame m #[(.int x0), (.int x1), (.int x2), (.int x3), (.int xf)] maxLocals)) := by
    by_cases q1 : (3 : Int32) < fr
    · have st61 : own_Go p e below (T51.setTop (mkF m 80 #[.val (.int x0), .val (.int x1), .val (.int x2), .val (.int x3), .val (.int xf), .val (.ref b1), .val (.ref b2), .val (.int fr), .val (.int (4 : Int32)), .unset] [])) (s₁.setTop (entryFrame m #[(.int x0), (.int x1), (.int x2), (.int x3), (.int xf)] maxLocals)) := fun t kt => st59 t (by
        show Steps p.tables e below (T51.setTop (mkF m 64 #[.val (.int x0), .val (.int x1), .val (.int x2), .val (.int x3), .val (.int xf), .val (.ref b1), .val (.ref b2), .val (.int fr), .val (.int (4 : Int32)), .unset] [(.int (3 : Int32)), (.int fr)])) _
        refine XS.icmpYes X51.here hx rfl (pc0 := 64) (pc' := 80) rfl (hb hby at_64) rfl (tlt q1).2.2.1 (by decide) (by decide) ?_
        show Steps p.tables e below (T51.setTop (mkF m 80 #[.val (.int x0), .val (.int x1), .val (.int x2), .val (.int x3), .val (.int xf), .val (.ref b1), .val (.ref b2), .val (.int fr), .val (.int (4 : Int32)), .unset] [])) _
        exact kt)
      exact ⟨(4 : Int32), _, _, X51, rfl, N51, by unfold own_e3; rw [if_pos q1], st61⟩
    · have st62 : own_Go p e below (T51.setTop (mkF m 70 #[.val (.int x0), .val (.int x1), .val (.int x2), .val (.int x3), .val (.int xf), .val (.ref b1), .val (.ref b2), .val (.int fr), .val (.int (4 : Int32)), .unset] [(.int (3 : Int32)), (.ref b1)])) (s₁.setTop (entryFrame m #[(.int x0), (.int x1), (.int x2), (.int x3), (.int xf)] maxLocals)) := fun t kt => st59 t (by
        show Steps p.tables e below (T51.setTop (mkF m 64 #[.val (.int x0), .val (.int x1), .val (.int x2), .val (.int x3), .val (.int xf), .val (.ref b1), .val (.ref b2), .val (.int fr), .val (.int (4 : Int32)), .unset] [(.int (3 : Int32)), (.int fr)])) _
        refine XS.icmpNo X51.here hx rfl (hb hby at_64) rfl (flt q1).2.2.1 ?_
        show Steps p.tables e below (T51.setTop (mkF m 67 #[.val (.int x0), .val (.int x1), .val (.int x2), .val (.int x3), .val (.int xf), .val (.ref b1), .val (.ref b2), .val (.int fr), .val (.int (4 : Int32)), .unset] [])) _
        refine XS.aload X51.here hx rfl (hb hby at_67) rfl rfl ?_
        show Steps p.tables e below (T51.setTop (mkF m 69 #[.val (.int x0), .val (.int x1), .val (.int x2), .val (.int x3), .val (.int xf), .val (.ref b1), .val (.ref b2), .val (.int fr), .val (.int (4 : Int32)), .unset] [(.ref b1)])) _
        refine XS.iconst X51.here hx rfl (hb hby at_69) ?_
        show Steps p.tables e below (T51.setTop (mkF m 70 #[.val (.int x0), .val (.int x1), .val (.int x2), .val (.int x3), .val (.int xf), .val (.ref b1), .val (.ref b2), .val (.int fr), .val (.int (4 : Int32)), .unset] [(.int (3 : Int32)), (.ref b1)])) _
        exact kt)
      have ls63 := own_caload X51 hx hZ rfl f53 (j := (3 : Int32)) (i := 3) (by decide) (by decide) (by decide) (v := (.int ch3)) (rfl) (g := (mkF m 70 #[.val (.int x0), .val (.int x1), .val (.int x2), .val (.int x3), .val (.int xf), .val (.ref b1), .val (.ref b2), .val (.int fr), .val (.int (4 : Int32)), .unset] [(.int (3 : Int32)), (.ref b1)])) rfl rfl (hb hby at_70)
      have st64 : own_Go p e below (T51.setTop (mkF m 71 #[.val (.int x0), .val (.int x1), .val (.int x2), .val (.int x3), .val (.int xf), .val (.ref b1), .val (.ref b2), .val (.int fr), .val (.int (4 : Int32)), .unset] [(.int ch3)])) (s₁.setTop (entryFrame m #[(.int x0), (.int x1), (.int x2), (.int x3), (.int xf)] maxLocals)) := fun t kt => st62 t (ls63 t kt)
      obtain ⟨_, _, ⟨T65, L65, k65, n65⟩, -, X65, ⟨Lc65, hQ65, l65, y65, z65⟩, ls65⟩ := Jvm.LawKit.callS X51 hx (y := (⟨"com/example/datumbridge/datumbridge/cli/InputLinesFieldEndPinLaw", "blank", "(C)Z"⟩ : MethodName)) hown (mvT hZ (hw _ (List.mem_of_getElem? (i := 35) rfl))) (mvT hZ (hw _ (List.mem_of_getElem? (i := 36) rfl))) (mvT hZ (hw _ (List.mem_of_getElem? (i := 3) rfl))) (mvT hZ (hw _ (List.mem_of_getElem? (i := 37) rfl))) (by decide) (backOf (W := 0) (rm_blank l Z a0 hw [] ch3 T51.heap n0 z57) hZ (hw _ (List.mem_of_getElem? (i := 37) rfl)) (hw _ (List.mem_of_getElem? (i := 3) rfl)) (by decide) (by decide)) (g := (mkF m 71 #[.val (.int x0), .val (.int x1), .val (.int x2), .val (.int x3), .val (.int xf), .val (.ref b1), .val (.ref b2), .val (.int fr), .val (.int (4 : Int32)), .unset] [(.int ch3)])) rfl (by rw [hml]; rfl) (argsL := [(.int ch3)]) (rest := []) (lenOf own_pd2 rfl) rfl (by show 2 * 0 + _ ≤ _; exact Nat.le_of_eq rfl) (hb hby at_71) (fun _ _ => ⟨rfl, rfl, (by decide : 3 + 0 ≤ _), (by decide : 12 + 0 ≤ _)⟩)
      dsimp only [Pt.U, Pt.locs, Pt.cells, Pt.slots] at X65 l65 y65 z65 ls65 hQ65
      subst l65 y65 z65
      obtain ⟨rfl, Nq65, eq65⟩ := hQ65
      have N65 := Fr.app N51 Nq65
      have st66 : own_Go p e below (T65.setTop (mkF m 74 #[.val (.int x0), .val (.int x1), .val (.int x2), .val (.int x3), .val (.int xf), .val (.ref b1), .val (.ref b2), .val (.int fr), .val (.int (4 : Int32)), .unset] [(.int (own_bl ch3))])) (s₁.setTop (entryFrame m #[(.int x0), (.int x1), (.int x2), (.int x3), (.int xf)] maxLocals)) := fun t kt => st64 t (ls65 t kt)
      by_cases q2 : (own_bl ch3) = (0 : Int32)
      · have st67 : own_Go p e below (T65.setTop (mkF m 80 #[.val (.int x0), .val (.int x1), .val (.int x2), .val (.int x3), .val (.int xf), .val (.ref b1), .val (.ref b2), .val (.int fr), .val (.int (4 : Int32)), .unset] [])) (s₁.setTop (entryFrame m #[(.int x0), (.int x1), (.int x2), (.int x3), (.int xf)] maxLocals)) := fun t kt => st66 t (by
          show Steps p.tables e below (T65.setTop (mkF m 74 #[.val (.int x0), .val (.int x1), .val (.int x2), .val (.int x3), .val (.int xf), .val (.ref b1), .val (.ref b2), .val (.int fr), .val (.int (4 : Int32)), .unset] [(.int (own_bl ch3))])) _
          refine XS.ifYes X65.here hx rfl (pc0 := 74) (pc' := 80) rfl (hb hby at_74) rfl ((if0 _ _).trans (teq q2).1) (by decide) (by decide) ?_
          show Steps p.tables e below (T65.setTop (mkF m 80 #[.val (.int x0), .val (.int x1), .val (.int x2), .val (.int x3), .val (.int xf), .val (.ref b1), .val (.ref b2), .val (.int fr), .val (.int (4 : Int32)), .unset] [])) _
          exact kt)
        exact ⟨(4 : Int32), _, _, X65, eq65, N65, by unfold own_e3; rw [if_neg q1, if_pos q2], st67⟩
      · have st68 : own_Go p e below (T65.setTop (mkF m 80 #[.val (.int x0), .val (.int x1), .val (.int x2), .val (.int x3), .val (.int xf), .val (.ref b1), .val (.ref b2), .val (.int fr), .val (.int (3 : Int32)), .unset] [])) (s₁.setTop (entryFrame m #[(.int x0), (.int x1), (.int x2), (.int x3), (.int xf)] maxLocals)) := fun t kt => st66 t (by
          show Steps p.tables e below (T65.setTop (mkF m 74 #[.val (.int x0), .val (.int x1), .val (.int x2), .val (.int x3), .val (.int xf), .val (.ref b1), .val (.ref b2), .val (.int fr), .val (.int (4 : Int32)), .unset] [(.int (own_bl ch3))])) _
          refine XS.ifNo X65.here hx rfl (hb hby at_74) rfl ((if0 _ _).trans (feq q2).1) ?_
          show Steps p.tables e below (T65.setTop (mkF m 77 #[.val (.int x0), .val (.int x1), .val (.int x2), .val (.int x3), .val (.int xf), .val (.ref b1), .val (.ref b2), .val (.int fr), .val (.int (4 : Int32)), .unset] [])) _
          refine XS.iconst X65.here hx rfl (hb hby at_77) ?_
          show Steps p.tables e below (T65.setTop (mkF m 78 #[.val (.int x0), .val (.int x1), .val (.int x2), .val (.int x3), .val (.int xf), .val (.ref b1), .val (.ref b2), .val (.int fr), .val (.int (4 : Int32)), .unset] [(.int (3 : Int32))])) _
          refine XS.istore X65.here hx rfl (hb hby at_78) rfl (l' := #[.val (.int x0), .val (.int x1), .val (.int x2), .val (.int x3), .val (.int xf), .val (.ref b1), .val (.ref b2), .val (.int fr), .val (.int (3 : Int32)), .unset]) rfl ?_
          show Steps p.tables e below (T65.setTop (mkF m 80 #[.val (.int x0), .val (.int x1), .val (.int x2), .val (.int x3), .val (.int xf), .val (.ref b1), .val (.ref b2), .val (.int fr), .val (.int (3 : Int32)), .unset] [])) _
          exact kt)
        exact ⟨(3 : Int32), _, _, X65, eq65, N65, by unfold own_e3; rw [if_neg q1, if_neg q2], st68⟩
  have st69 : own_Go p e below (T60.setTop (mkF m 83 #[.val (.int x0), .val (.int x1), .val (.int x2), .val (.int x3), .val (.int xf), .val (.ref b1), .val (.ref b2), .val (.int fr), .val (.int ex3), .unset] [(.int (2 : Int32)), (.int fr)])) (s₁.setTop (entryFrame m #[(.int x0), (.int x1), (.int x2), (.int x3), (.int xf)] maxLocals)) := fun t kt => st60 t (by
    show Steps p.tables e below (T60.setTop (mkF m 80 #[.val (.int x0), .val (.int x1), .val (.int x2), .val (.int x3), .val (.int xf), .val (.ref b1), .val (.ref b2), .val (.int fr), .val (.int ex3), .unset] [])) _
    refine XS.iload X60.here hx rfl (hb hby at_80) rfl ?_
    show Steps p.tables e below (T60.setTop (mkF m 82 #[.val (.int x0), .val (.int x1), .val (.int x2), .val (.int x3), .val (.int xf), .val (.ref b1), .val (.ref b2), .val (.int fr), .val (.int ex3), .unset] [(.int fr)])) _
    refine XS.iconst X60.here hx rfl (hb hby at_82) ?_
    show Steps p.tables e below (T60.setTop (mkF m 83 #[.val (.int x0), .val (.int x1), .val (.int x2), .val (.int x3), .val (.int xf), .val (.ref b1), .val (.ref b2), .val (.int fr), .val (.int ex3), .unset] [(.int (2 : Int32)), (.int fr)])) _
    exact kt)
  obtain ⟨ex2, T70, L70, X70, e70, N70, hj70, st70⟩ : ∃ (ex2 : Int32) (T70 : State) (L' : List Loc), Stand p l e room_1 s m #[(.int x0), (.int x1), (.int x2), (.int x3), (.int xf)] below meth c T70 L' 3 12 ∧ T70.heap = T51.heap ∧ Fr n0 L' ∧ (ex2 = own_e2 fr ch2 ch3) ∧ own_Go p e below (T70.setTop (mkF m 99 #[.val (.int x0), .val (.int x1), .val (.int x2), .val (.int x3), .val (.int xf), .val (.ref b1), .val (.ref b2), .val (.int fr), .val (.int ex2), .unset] [])) (s₁.setTop (entryFrame m #[(.int x0), (.int x1), (.int x2), (.int x3), (.int xf)] maxLocals)) := by
    by_cases q1 : (2 : Int32) < fr
    · have st71 : own_Go p e below (T60.setTop (mkF m 99 #[.val (.int x0), .val (.int x1), .val (.int x2), .val (.int x3), .val (.int xf), .val (.ref b1), .val (.ref b2), .val (.int fr), .val (.int ex3), .unset] [])) (s₁.setTop (entryFrame m #[(.int x0), (.int x1), (.int x2), (.int x3), (.int xf)] maxLocals)) := fun t kt => st69 t (by
        show Steps p.tables e below (T60.setTop (mkF m 83 #[.val (.int x0), .val (.int x1), .val (.int x2), .val (.int x3), .val (.int xf), .val (.ref b1), .val (.ref b2), .val (.int fr), .val (.int ex3), .unset] [(.int (2 : Int32)), (.int fr)])) _
        refine XS.icmpYes X60.here hx rfl (pc0 := 83) (pc' := 99) rfl (hb hby at_83) rfl (tlt q1).2.2.1 (by decide) (by decide) ?_
        show Steps p.tables e below (T60.setTop (mkF m 99 #[.val (.int x0), .val (.int x1), .val (.int x2), .val (.int x3), .val (.int xf), .val (.ref b1), .val (.ref b2), .val (.int fr), .val (.int ex3), .unset] [])) _
        exact kt)
      exact ⟨ex3, _, _, X60, e60, N60, by unfold own_e2; rw [if_pos q1]; exact hj60, st71⟩
    · have st72 : own_Go p e below (T60.setTop (mkF m 89 #[.val (.int x0), .val (.int x1), .val (.int x2), .val (.int x3), .val (.int xf), .val (.ref b1), .val (.ref b2), .val (.int fr), .val (.int ex3), .unset] [(.int (2 : Int32)), (.ref b1)])) (s₁.setTop (entryFrame m #[(.int x0), (.int x1), (.int x2), (.int x3), (.int xf)] maxLocals)) := fun t kt => st69 t (by
        show Steps p.tables e below (T60.setTop (mkF m 83 #[.val (.int x0), .val (.int x1), .val (.int x2), .val (.int x3), .val (.int xf), .val (.ref b1), .val (.ref b2), .val (.int fr), .val (.int ex3), .unset] [(.int (2 : Int32)), (.int fr)])) _
        refine XS.icmpNo X60.here hx rfl (hb hby at_83) rfl (flt q1).2.2.1 ?_
        show Steps p.tables e below (T60.setTop (mkF m 86 #[.val (.int x0), .val (.int x1), .val (.int x2), .val (.int x3), .val (.int xf), .val (.ref b1), .val (.ref b2), .val (.int fr), .val (.int ex3), .unset] [])) _
        refine XS.aload X60.here hx rfl (hb hby at_86) rfl rfl ?_
        show Steps p.tables e below (T60.setTop (mkF m 88 #[.val (.int x0), .val (.int x1), .val (.int x2), .val (.int x3), .val (.int xf), .val (.ref b1), .val (.ref b2), .val (.int fr), .val (.int ex3), .unset] [(.ref b1)])) _
        refine XS.iconst X60.here hx rfl (hb hby at_88) ?_
        show Steps p.tables e below (T60.setTop (mkF m 89 #[.val (.int x0), .val (.int x1), .val (.int x2), .val (.int x3), .val (.int xf), .val (.ref b1), .val (.ref b2), .val (.int fr), .val (.int ex3), .unset] [(.int (2 : Int32)), (.ref b1)])) _
        exact kt)
      have ls73 := own_caload X60 hx hZ e60 f53 (j := (2 : Int32)) (i := 2) (by decide) (by decide) (by decide) (v := (.int ch2)) (rfl) (g := (mkF m 89 #[.val (.int x0), .val (.int x1), .val (.int x2), .val (.int x3), .val (.int xf), .val (.ref b1), .val (.ref b2), .val (.int fr), .val (.int ex3), .unset] [(.int (2 : Int32)), (.ref b1)])) rfl rfl (hb hby at_89)
      have st74 : own_Go p e below (T60.setTop (mkF m 90 #[.val (.int x0), .val (.int x1), .val (.int x2), .val (.int x3), .val (.int xf), .val (.ref b1), .val (.ref b2), .val (.int fr), .val (.int ex3), .unset] [(.int ch2)])) (s₁.setTop (entryFrame m #[(.int x0), (.int x1), (.int x2), (.int x3), (.int xf)] maxLocals)) := fun t kt => st72 t (ls73 t kt)
      obtain ⟨_, _, ⟨T75, L75, k75, n75⟩, -, X75, ⟨Lc75, hQ75, l75, y75, z75⟩, ls75⟩ := Jvm.LawKit.callS X60 hx (y := (⟨"com/example/datumbridge/datumbridge/cli/InputLinesFieldEndPinLaw", "blank", "(C)Z"⟩ : MethodName)) hown (mvT hZ (hw _ (List.mem_of_getElem? (i := 35) rfl))) (mvT hZ (hw _ (List.mem_of_getElem? (i := 36) rfl))) (mvT hZ (hw _ (List.mem_of_getElem? (i := 3) rfl))) (mvT hZ (hw _ (List.mem_of_getElem? (i := 37) rfl))) (by decide) (backOf (W := 0) (rm_blank l Z a0 hw [] ch2 T51.heap n0 z57) hZ (hw _ (List.mem_of_getElem? (i := 37) rfl)) (hw _ (List.mem_of_getElem? (i := 3) rfl)) (by decide) (by decide)) (g := (mkF m 90 #[.val (.int x0), .val (.int x1), .val (.int x2), .val (.int x3), .val (.int xf), .val (.ref b1), .val (.ref b2), .val (.int fr), .val (.int ex3), .unset] [(.int ch2)])) rfl (by rw [hml]; rfl) (argsL := [(.int ch2)]) (rest := []) (lenOf own_pd2 rfl) rfl (by show 2 * 0 + _ ≤ _; exact Nat.le_of_eq rfl) (hb hby at_90) (fun _ _ => ⟨rfl, e60, (by decide : 3 + 0 ≤ _), (by decide : 12 + 0 ≤ _)⟩)
      dsimp only [Pt.U, Pt.locs, Pt.cells, Pt.slots] at X75 l75 y75 z75 ls75 hQ75
      subst l75 y75 z75
      obtain ⟨rfl, Nq75, eq75⟩ := hQ75
      have N75 := Fr.app N60 Nq75
      have st76 : own_Go p e below (T75.setTop (mkF m 93 #[.val (.int x0), .val (.int x1), .val (.int x2), .val (.int x3), .val (.int xf), .val (.ref b1), .val (.ref b2), .val (.int fr), .val (.int ex3), .unset] [(.int (own_bl ch2))])) (s₁.setTop (entryFrame m #[(.int x0), (.int x1), (.int x2), (.int x3), (.int xf)] maxLocals)) := fun t kt => st74 t (ls75 t kt)
      by_cases q2 : (own_bl ch2) = (0 : Int32)
      · have st77 : own_Go p e below (T75.setTop (mkF m 99 #[.val (.int x0), .val (.int x1), .val (.int x2), .val (.int x3), .val (.int xf), .val (.ref b1), .val (.ref b2), .val (.int fr), .val (.int ex3), .unset] [])) (s₁.setTop (entryFrame m #[(.int x0), (.int x1), (.int x2), (.int x3), (.int xf)] maxLocals)) := fun t kt => st76 t (by
          show Steps p.tables e below (T75.setTop (mkF m 93 #[.val (.int x0), .val (.int x1), .val (.int x2), .val (.int x3), .val (.int xf), .val (.ref b1), .val (.ref b2), .val (.int fr), .val (.int ex3), .unset] [(.int (own_bl ch2))])) _
          refine XS.ifYes X75.here hx rfl (pc0 := 93) (pc' := 99) rfl (hb hby at_93) rfl ((if0 _ _).trans (teq q2).1) (by decide) (by decide) ?_
          show Steps p.tables e below (T75.setTop (mkF m 99 #[.val (.int x0), .val (.int x1), .val (.int x2), .val (.int x3), .val (.int xf), .val (.ref b1), .val (.ref b2), .val (.int fr), .val (.int ex3), .unset] [])) _
          exact kt)
        exact ⟨ex3, _, _, X75, eq75, N75, by unfold own_e2; rw [if_neg q1, if_pos q2]; exact hj60, st77⟩
      · have st78 : own_Go p e below (T75.setTop (mkF m 99 #[.val (.int x0), .val (.int x1), .val (.int x2), .val (.int x3), .val (.int xf), .val (.ref b1), .val (.ref b2), .val (.int fr), .val (.int (2 : Int32)), .unset] [])) (s₁.setTop (entryFrame m #[(.int x0), (.int x1), (.int x2), (.int x3), (.int xf)] maxLocals)) := fun t kt => st76 t (by
          show Steps p.tables e below (T75.setTop (mkF m 93 #[.val (.int x0), .val (.int x1), .val (.int x2), .val (.int x3), .val (.int xf), .val (.ref b1), .val (.ref b2), .val (.int fr), .val (.int ex3), .unset] [(.int (own_bl ch2))])) _
          refine XS.ifNo X75.here hx rfl (hb hby at_93) rfl ((if0 _ _).trans (feq q2).1) ?_
          show Steps p.tables e below (T75.setTop (mkF m 96 #[.val (.int x0), .val (.int x1), .val (.int x2), .val (.int x3), .val (.int xf), .val (.ref b1), .val (.ref b2), .val (.int fr), .val (.int ex3), .unset] [])) _
          refine XS.iconst X75.here hx rfl (hb hby at_96) ?_
          show Steps p.tables e below (T75.setTop (mkF m 97 #[.val (.int x0), .val (.int x1), .val (.int x2), .val (.int x3), .val (.int xf), .val (.ref b1), .val (.ref b2), .val (.int fr), .val (.int ex3), .unset] [(.int (2 : Int32))])) _
          refine XS.istore X75.here hx rfl (hb hby at_97) rfl (l' := #[.val (.int x0), .val (.int x1), .val (.int x2), .val (.int x3), .val (.int xf), .val (.ref b1), .val (.ref b2), .val (.int fr), .val (.int (2 : Int32)), .unset]) rfl ?_
          show Steps p.tables e below (T75.setTop (mkF m 99 #[.val (.int x0), .val (.int x1), .val (.int x2), .val (.int x3), .val (.int xf), .val (.ref b1), .val (.ref b2), .val (.int fr), .val (.int (2 : Int32)), .unset] [])) _
          exact kt)
        exact ⟨(2 : Int32), _, _, X75, eq75, N75, by unfold own_e2; rw [if_neg q1, if_neg q2], st78⟩
  have st79 : own_Go p e below (T70.setTop (mkF m 102 #[.val (.int x0), .val (.int x1), .val (.int x2), .val (.int x3), .val (.int xf), .val (.ref b1), .val (.ref b2), .val (.int fr), .val (.int ex2), .unset] [(.int (1 : Int32)), (.int fr)])) (s₁.setTop (entryFrame m #[(.int x0), (.int x1), (.int x2), (.int x3), (.int xf)] maxLocals)) := fun t kt => st70 t (by
    show Steps p.tables e below (T70.setTop (mkF m 99 #[.val (.int x0), .val (.int x1), .val (.int x2), .val (.int x3), .val (.int xf), .val (.ref b1), .val (.ref b2), .val (.int fr), .val (.int ex2), .unset] [])) _
    refine XS.iload X70.here hx rfl (hb hby at_99) rfl ?_
    show Steps p.tables e below (T70.setTop (mkF m 101 #[.val (.int x0), .val (.int x1), .val (.int x2), .val (.int x3), .val (.int xf), .val (.ref b1), .val (.ref b2), .val (.int fr), .val (.int ex2), .unset] [(.int fr)])) _
    refine XS.iconst X70.here hx rfl (hb hby at_101) ?_
    show Steps p.tables e below (T70.setTop (mkF m 102 #[.val (.int x0), .val (.int x1), .val (.int x2), .val (.int x3), .val (.int xf), .val (.ref b1), .val (.ref b2), .val (.int fr), .val (.int ex2), .unset] [(.int (1 : Int32)), (.int fr)])) _
    exact kt)
  obtain ⟨ex1, T80, L80, X80, e80, N80, hj80, st80⟩ : ∃ (ex1 : Int32) (T80 : State) (L' : List Loc), Stand p l e room_1 s m #[(.int x0), (.int x1), (.int x2), (.int x3), (.int xf)] below meth c T80 L' 3 12 ∧ T80.heap = T51.heap ∧ Fr n0 L' ∧ (ex1 = own_e1 fr ch1 ch2 ch3) ∧ own_Go p e below (T80.setTop (mkF m 118 #[.val (.int x0), .val (.int x1), .val (.int x2), .val (.int x3), .val (.int xf), .val (.ref b1), .val (.ref b2), .val (.int fr), .val (.int ex1), .unset] [])) (s₁.setTop (entryFrame m #[(.int x0), (.int x1), (.int x2), (.int x3), (.int xf)] maxLocals)) := by
    by_cases q1 : (1 : Int32) < fr
    · have st81 : own_Go p e below (T70.setTop (mkF m 118 #[.val (.int x0), .val (.int x1), .val (.int x2), .val (.int x3), .val (.int xf), .val (.ref b1), .val (.ref b2), .val (.int fr), .val (.int ex2), .unset] [])) (s₁.setTop (entryFrame m #[(.int x0), (.int x1), (.int x2), (.int x3), (.int xf)] maxLocals)) := fun t kt => st79 t (by
        show Steps p.tables e below (T70.setTop (mkF m 102 #[.val (.int x0), .val (.int x1), .val (.int x2), .val (.int x3), .val (.int xf), .val (.ref b1), .val (.ref b2), .val (.int fr), .val (.int ex2), .unset] [(.int (1 : Int32)), (.int fr)])) _
        refine XS.icmpYes X70.here hx rfl (pc0 := 102) (pc' := 118) rfl (hb hby at_102) rfl (tlt q1).2.2.1 (by decide) (by decide) ?_
        show Steps p.tables e below (T70.setTop (mkF m 118 #[.val (.int x0), .val (.int x1), .val (.int x2), .val (.int x3), .val (.int xf), .val (.ref b1), .val (.ref b2), .val (.int fr), .val (.int ex2), .unset] [])) _
        exact kt)
      exact ⟨ex2, _, _, X70, e70, N70, by unfold own_e1; rw [if_pos q1]; exact hj70, st81⟩
    · have st82 : own_Go p e below (T70.setTop (mkF m 108 #[.val (.int x0), .val (.int x1), .val (.int x2), .val (.int x3), .val (.int xf), .val (.ref b1), .val (.ref b2), .val (.int fr), .val (.int ex2), .unset] [(.int (1 : Int32)), (.ref b1)])) (s₁.setTop (entryFrame m #[(.int x0), (.int x1), (.int x2), (.int x3), (.int xf)] maxLocals)) := fun t kt => st79 t (by
        show Steps p.tables e below (T70.setTop (mkF m 102 #[.val (.int x0), .val (.int x1), .val (.int x2), .val (.int x3), .val (.int xf), .val (.ref b1), .val (.ref b2), .val (.int fr), .val (.int ex2), .unset] [(.int (1 : Int32)), (.int fr)])) _
        refine XS.icmpNo X70.here hx rfl (hb hby at_102) rfl (flt q1).2.2.1 ?_
        show Steps p.tables e below (T70.setTop (mkF m 105 #[.val (.int x0), .val (.int x1), .val (.int x2), .val (.int x3), .val (.int xf), .val (.ref b1), .val (.ref b2), .val (.int fr), .val (.int ex2), .unset] [])) _
        refine XS.aload X70.here hx rfl (hb hby at_105) rfl rfl ?_
        show Steps p.tables e below (T70.setTop (mkF m 107 #[.val (.int x0), .val (.int x1), .val (.int x2), .val (.int x3), .val (.int xf), .val (.ref b1), .val (.ref b2), .val (.int fr), .val (.int ex2), .unset] [(.ref b1)])) _
        refine XS.iconst X70.here hx rfl (hb hby at_107) ?_
        show Steps p.tables e below (T70.setTop (mkF m 108 #[.val (.int x0), .val (.int x1), .val (.int x2), .val (.int x3), .val (.int xf), .val (.ref b1), .val (.ref b2), .val (.int fr), .val (.int ex2), .unset] [(.int (1 : Int32)), (.ref b1)])) _
        exact kt)
      have ls83 := own_caload X70 hx hZ e70 f53 (j := (1 : Int32)) (i := 1) (by decide) (by decide) (by decide) (v := (.int ch1)) (rfl) (g := (mkF m 108 #[.val (.int x0), .val (.int x1), .val (.int x2), .val (.int x3), .val (.int xf), .val (.ref b1), .val (.ref b2), .val (.int fr), .val (.int ex2), .unset] [(.int (1 : Int32)), (.ref b1)])) rfl rfl (hb hby at_108)
      have st84 : own_Go p e below (T70.setTop (mkF m 109 #[.val (.int x0), .val (.int x1), .val (.int x2), .val (.int x3), .val (.int xf), .val (.ref b1), .val (.ref b2), .val (.int fr), .val (.int ex2), .unset] [(.int ch1)])) (s₁.setTop (entryFrame m #[(.int x0), (.int x1), (.int x2), (.int x3), (.int xf)] maxLocals)) := fun t kt => st82 t (ls83 t kt)
      obtain ⟨_, _, ⟨T85, L85, k85, n85⟩, -, X85, ⟨Lc85, hQ85, l85, y85, z85⟩, ls85⟩ := Jvm.LawKit.callS X70 hx (y := (⟨"com/example/datumbridge/datumbridge/cli/InputLinesFieldEndPinLaw", "blank", "(C)Z"⟩ : MethodName)) hown (mvT hZ (hw _ (List.mem_of_getElem? (i := 35) rfl))) (mvT hZ (hw _ (List.mem_of_getElem? (i := 36) rfl))) (mvT hZ (hw _ (List.mem_of_getElem? (i := 3) rfl))) (mvT hZ (hw _ (List.mem_of_getElem? (i := 37) rfl))) (by decide) (backOf (W := 0) (rm_blank l Z a0 hw [] ch1 T51.heap n0 z57) hZ (hw _ (List.mem_of_getElem? (i := 37) rfl)) (hw _ (List.mem_of_getElem? (i := 3) rfl)) (by decide) (by decide)) (g := (mkF m 109 #[.val (.int x0), .val (.int x1), .val (.int x2), .val (.int x3), .val (.int xf), .val (.ref b1), .val (.ref b2), .val (.int fr), .val (.int ex2), .unset] [(.int ch1)])) rfl (by rw [hml]; rfl) (argsL := [(.int ch1)]) (rest := []) (lenOf own_pd2 rfl) rfl (by show 2 * 0 + _ ≤ _; exact Nat.le_of_eq rfl) (hb hby at_109) (fun _ _ => ⟨rfl, e70, (by decide : 3 + 0 ≤ _), (by decide : 12 + 0 ≤ _)⟩)
      dsimp only [Pt.U, Pt.locs, Pt.cells, Pt.slots] at X85 l85 y85 z85 ls85 hQ85
      subst l85 y85 z85
      obtain ⟨rfl, Nq85, eq85⟩ := hQ85
      have N85 := Fr.app N70 Nq85
      have st86 : own_Go p e below (T85.setTop (mkF m 112 #[.val (.int x0), .val (.int x1), .val (.int x2), .val (.int x3), .val (.int xf), .val (.ref b1), .val (.ref b2), .val (.int fr), .val (.int ex2), .unset] [(.int (own_bl ch1))])) (s₁.setTop (entryFrame m #[(.int x0), (.int x1), (.int x2), (.int x3), (.int xf)] maxLocals)) := fun t kt => st84 t (ls85 t kt)
      by_cases q2 : (own_bl ch1) = (0 : Int32)
      · have st87 : own_Go p e below (T85.setTop (mkF m 118 #[.val (.int x0), .val (.int x1), .val (.int x2), .val (.int x3), .val (.int xf), .val (.ref b1), .val (.ref b2), .val (.int fr), .val (.int ex2), .unset] [])) (s₁.setTop (entryFrame m #[(.int x0), (.int x1), (.int x2), (.int x3), (.int xf)] maxLocals)) := fun t kt => st86 t (by
          show Steps p.tables e below (T85.setTop (mkF m 112 #[.val (.int x0), .val (.int x1), .val (.int x2), .val (.int x3), .val (.int xf), .val (.ref b1), .val (.ref b2), .val (.int fr), .val (.int ex2), .unset] [(.int (own_bl ch1))])) _
          refine XS.ifYes X85.here hx rfl (pc0 := 112) (pc' := 118) rfl (hb hby at_112) rfl ((if0 _ _).trans (teq q2).1) (by decide) (by decide) ?_
          show Steps p.tables e below (T85.setTop (mkF m 118 #[.val (.int x0), .val (.int x1), .val (.int x2), .val (.int x3), .val (.int xf), .val (.ref b1), .val (.ref b2), .val (.int fr), .val (.int ex2), .unset] [])) _
          exact kt)
        exact ⟨ex2, _, _, X85, eq85, N85, by unfold own_e1; rw [if_neg q1, if_pos q2]; exact hj70, st87⟩
      · have st88 : own_Go p e below (T85.setTop (mkF m 118 #[.val (.int x0), .val (.int x1), .val (.int x2), .val (.int x3), .val (.int xf), .val (.ref b1), .val (.ref b2), .val (.int fr), .val (.int (1 : Int32)), .unset] [])) (s₁.setTop (entryFrame m #[(.int x0), (.int x1), (.int x2), (.int x3), (.int xf)] maxLocals)) := fun t kt => st86 t (by
          show Steps p.tables e below (T85.setTop (mkF m 112 #[.val (.int x0), .val (.int x1), .val (.int x2), .val (.int x3), .val (.int xf), .val (.ref b1), .val (.ref b2), .val (.int fr), .val (.int ex2), .unset] [(.int (own_bl ch1))])) _
          refine XS.ifNo X85.here hx rfl (hb hby at_112) rfl ((if0 _ _).trans (feq q2).1) ?_
          show Steps p.tables e below (T85.setTop (mkF m 115 #[.val (.int x0), .val (.int x1), .val (.int x2), .val (.int x3), .val (.int xf), .val (.ref b1), .val (.ref b2), .val (.int fr), .val (.int ex2), .unset] [])) _
          refine XS.iconst X85.here hx rfl (hb hby at_115) ?_
          show Steps p.tables e below (T85.setTop (mkF m 116 #[.val (.int x0), .val (.int x1), .val (.int x2), .val (.int x3), .val (.int xf), .val (.ref b1), .val (.ref b2), .val (.int fr), .val (.int ex2), .unset] [(.int (1 : Int32))])) _
          refine XS.istore X85.here hx rfl (hb hby at_116) rfl (l' := #[.val (.int x0), .val (.int x1), .val (.int x2), .val (.int x3), .val (.int xf), .val (.ref b1), .val (.ref b2), .val (.int fr), .val (.int (1 : Int32)), .unset]) rfl ?_
          show Steps p.tables e below (T85.setTop (mkF m 118 #[.val (.int x0), .val (.int x1), .val (.int x2), .val (.int x3), .val (.int xf), .val (.ref b1), .val (.ref b2), .val (.int fr), .val (.int (1 : Int32)), .unset] [])) _
          exact kt)
        exact ⟨(1 : Int32), _, _, X85, eq85, N85, by unfold own_e1; rw [if_neg q1, if_neg q2], st88⟩
  have st89 : own_Go p e below (T80.setTop (mkF m 120 #[.val (.int x0), .val (.int x1), .val (.int x2), .val (.int x3), .val (.int xf), .val (.ref b1), .val (.ref b2), .val (.int fr), .val (.int ex1), .unset] [(.int fr)])) (s₁.setTop (entryFrame m #[(.int x0), (.int x1), (.int x2), (.int x3), (.int xf)] maxLocals)) := fun t kt => st80 t (by
    show Steps p.tables e below (T80.setTop (mkF m 118 #[.val (.int x0), .val (.int x1), .val (.int x2), .val (.int x3), .val (.int xf), .val (.ref b1), .val (.ref b2), .val (.int fr), .val (.int ex1), .unset] [])) _
    refine XS.iload X80.here hx rfl (hb hby at_118) rfl ?_
    show Steps p.tables e below (T80.setTop (mkF m 120 #[.val (.int x0), .val (.int x1), .val (.int x2), .val (.int x3), .val (.int xf), .val (.ref b1), .val (.ref b2), .val (.int fr), .val (.int ex1), .unset] [(.int fr)])) _
    exact kt)
  obtain ⟨ex0, T90, L90, X90, e90, N90, hj90, st90⟩ : ∃ (ex0 : Int32) (T90 : State) (L' : List Loc), Stand p l e room_1 s m #[(.int x0), (.int x1), (.int x2), (.int x3), (.int xf)] below meth c T90 L' 3 12 ∧ T90.heap = T51.heap ∧ Fr n0 L' ∧ (ex0 = own_e0 fr ch0 ch1 ch2 ch3) ∧ own_Go p e below (T90.setTop (mkF m 136 #[.val (.int x0), .val (.int x1), .val (.int x2), .val (.int x3), .val (.int xf), .val (.ref b1), .val (.ref b2), .val (.int fr), .val (.int ex0), .unset] [])) (s₁.setTop (entryFrame m #[(.int x0), (.int x1), (.int x2), (.int x3), (.int xf)] maxLocals)) := by
    by_cases q1 : (0 : Int32) < fr
    · have st91 : own_Go p e below (T80.setTop (mkF m 136 #[.val (.int x0), .val (.int x1), .val (.int x2), .val (.int x3), .val (.int xf), .val (.ref b1), .val (.ref b2), .val (.int fr), .val (.int ex1), .unset] [])) (s₁.setTop (entryFrame m #[(.int x0), (.int x1), (.int x2), (.int x3), (.int xf)] maxLocals)) := fun t kt => st89 t (by
        show Steps p.tables e below (T80.setTop (mkF m 120 #[.val (.int x0), .val (.int x1), .val (.int x2), .val (.int x3), .val (.int xf), .val (.ref b1), .val (.ref b2), .val (.int fr), .val (.int ex1), .unset] [(.int fr)])) _
        refine XS.ifYes X80.here hx rfl (pc0 := 120) (pc' := 136) rfl (hb hby at_120) rfl ((if0 _ _).trans (tlt q1).2.2.1) (by decide) (by decide) ?_
        show Steps p.tables e below (T80.setTop (mkF m 136 #[.val (.int x0), .val (.int x1), .val (.int x2), .val (.int x3), .val (.int xf), .val (.ref b1), .val (.ref b2), .val (.int fr), .val (.int ex1), .unset] [])) _
        exact kt)
      exact ⟨ex1, _, _, X80, e80, N80, by unfold own_e0; rw [if_pos q1]; exact hj80, st91⟩
    · have st92 : own_Go p e below (T80.setTop (mkF m 126 #[.val (.int x0), .val (.int x1), .val (.int x2), .val (.int x3), .val (.int xf), .val (.ref b1), .val (.ref b2), .val (.int fr), .val (.int ex1), .unset] [(.int (0 : Int32)), (.ref b1)])) (s₁.setTop (entryFrame m #[(.int x0), (.int x1), (.int x2), (.int x3), (.int xf)] maxLocals)) := fun t kt => st89 t (by
        show Steps p.tables e below (T80.setTop (mkF m 120 #[.val (.int x0), .val (.int x1), .val (.int x2), .val (.int x3), .val (.int xf), .val (.ref b1), .val (.ref b2), .val (.int fr), .val (.int ex1), .unset] [(.int fr)])) _
        refine XS.ifNo X80.here hx rfl (hb hby at_120) rfl ((if0 _ _).trans (flt q1).2.2.1) ?_
        show Steps p.tables e below (T80.setTop (mkF m 123 #[.val (.int x0), .val (.int x1), .val (.int x2), .val (.int x3), .val (.int xf), .val (.ref b1), .val (.ref b2), .val (.int fr), .val (.int ex1), .unset] [])) _
        refine XS.aload X80.here hx rfl (hb hby at_123) rfl rfl ?_
        show Steps p.tables e below (T80.setTop (mkF m 125 #[.val (.int x0), .val (.int x1), .val (.int x2), .val (.int x3), .val (.int xf), .val (.ref b1), .val (.ref b2), .val (.int fr), .val (.int ex1), .unset] [(.ref b1)])) _
        refine XS.iconst X80.here hx rfl (hb hby at_125) ?_
        show Steps p.tables e below (T80.setTop (mkF m 126 #[.val (.int x0), .val (.int x1), .val (.int x2), .val (.int x3), .val (.int xf), .val (.ref b1), .val (.ref b2), .val (.int fr), .val (.int ex1), .unset] [(.int (0 : Int32)), (.ref b1)])) _
        exact kt)
      have ls93 := own_caload X80 hx hZ e80 f53 (j := (0 : Int32)) (i := 0) (by decide) (by decide) (by decide) (v := (.int ch0)) (rfl) (g := (mkF m 126 #[.val (.int x0), .val (.int x1), .val (.int x2), .val (.int x3), .val (.int xf), .val (.ref b1), .val (.ref b2), .val (.int fr), .val (.int ex1), .unset] [(.int (0 : Int32)), (.ref b1)])) rfl rfl (hb hby at_126)
      have st94 : own_Go p e below (T80.setTop (mkF m 127 #[.val (.int x0), .val (.int x1), .val (.int x2), .val (.int x3), .val (.int xf), .val (.ref b1), .val (.ref b2), .val (.int fr), .val (.int ex1), .unset] [(.int ch0)])) (s₁.setTop (entryFrame m #[(.int x0), (.int x1), (.int x2), (.int x3), (.int xf)] maxLocals)) := fun t kt => st92 t (ls93 t kt)
      obtain ⟨_, _, ⟨T95, L95, k95, n95⟩, -, X95, ⟨Lc95, hQ95, l95, y95, z95⟩, ls95⟩ := Jvm.LawKit.callS X80 hx (y := (⟨"com/example/datumbridge/datumbridge/cli/InputLinesFieldEndPinLaw", "blank", "(C)Z"⟩ : MethodName)) hown (mvT hZ (hw _ (List.mem_of_getElem? (i := 35) rfl))) (mvT hZ (hw _ (List.mem_of_getElem? (i := 36) rfl))) (mvT hZ (hw _ (List.mem_of_getElem? (i := 3) rfl))) (mvT hZ (hw _ (List.mem_of_getElem? (i := 37) rfl))) (by decide) (backOf (W := 0) (rm_blank l Z a0 hw [] ch0 T51.heap n0 z57) hZ (hw _ (List.mem_of_getElem? (i := 37) rfl)) (hw _ (List.mem_of_getElem? (i := 3) rfl)) (by decide) (by decide)) (g := (mkF m 127 #[.val (.int x0), .val (.int x1), .val (.int x2), .val (.int x3), .val (.int xf), .val (.ref b1), .val (.ref b2), .val (.int fr), .val (.int ex1), .unset] [(.int ch0)])) rfl (by rw [hml]; rfl) (argsL := [(.int ch0)]) (rest := []) (lenOf own_pd2 rfl) rfl (by show 2 * 0 + _ ≤ _; exact Nat.le_of_eq rfl) (hb hby at_127) (fun _ _ => ⟨rfl, e80, (by decide : 3 + 0 ≤ _), (by decide : 12 + 0 ≤ _)⟩)
      dsimp only [Pt.U, Pt.locs, Pt.cells, Pt.slots] at X95 l95 y95 z95 ls95 hQ95
      subst l95 y95 z95
      obtain ⟨rfl, Nq95, eq95⟩ := hQ95
      have N95 := Fr.app N80 Nq95
      have st96 : own_Go p e below (T95.setTop (mkF m 130 #[.val (.int x0), .val (.int x1), .val (.int x2), .val (.int x3), .val (.int xf), .val (.ref b1), .val (.ref b2), .val (.int fr), .val (.int ex1), .unset] [(.int (own_bl ch0))])) (s₁.setTop (entryFrame m #[(.int x0), (.int x1), (.int x2), (.int x3), (.int xf)] maxLocals)) := fun t kt => st94 t (ls95 t kt)
      by_cases q2 : (own_bl ch0) = (0 : Int32)
      · have st97 : own_Go p e below (T95.setTop (mkF m 136 #[.val (.int x0), .val (.int x1), .val (.int x2), .val (.int x3), .val (.int xf), .val (.ref b1), .val (.ref b2), .val (.int fr), .val (.int ex1), .unset] [])) (s₁.setTop (entryFrame m #[(.int x0), (.int x1), (.int x2), (.int x3), (.int xf)] maxLocals)) := fun t kt => st96 t (by
          show Steps p.tables e below (T95.setTop (mkF m 130 #[.val (.int x0), .val (.int x1), .val (.int x2), .val (.int x3), .val (.int xf), .val (.ref b1), .val (.ref b2), .val (.int fr), .val (.int ex1), .unset] [(.int (own_bl ch0))])) _
          refine XS.ifYes X95.here hx rfl (pc0 := 130) (pc' := 136) rfl (hb hby at_130) rfl ((if0 _ _).trans (teq q2).1) (by decide) (by decide) ?_
          show Steps p.tables e below (T95.setTop (mkF m 136 #[.val (.int x0), .val (.int x1), .val (.int x2), .val (.int x3), .val (.int xf), .val (.ref b1), .val (.ref b2), .val (.int fr), .val (.int ex1), .unset] [])) _
          exact kt)
        exact ⟨ex1, _, _, X95, eq95, N95, by unfold own_e0; rw [if_neg q1, if_pos q2]; exact hj80, st97⟩
      · have st98 : own_Go p e below (T95.setTop (mkF m 136 #[.val (.int x0), .val (.int x1), .val (.int x2), .val (.int x3), .val (.int xf), .val (.ref b1), .val (.ref b2), .val (.int fr), .val (.int (0 : Int32)), .unset] [])) (s₁.setTop (entryFrame m #[(.int x0), (.int x1), (.int x2), (.int x3), (.int xf)] maxLocals)) := fun t kt => st96 t (by
          show Steps p.tables e below (T95.setTop (mkF m 130 #[.val (.int x0), .val (.int x1), .val (.int x2), .val (.int x3), .val (.int xf), .val (.ref b1), .val (.ref b2), .val (.int fr), .val (.int ex1), .unset] [(.int (own_bl ch0))])) _
          refine XS.ifNo X95.here hx rfl (hb hby at_130) rfl ((if0 _ _).trans (feq q2).1) ?_
          show Steps p.tables e below (T95.setTop (mkF m 133 #[.val (.int x0), .val (.int x1), .val (.int x2), .val (.int x3), .val (.int xf), .val (.ref b1), .val (.ref b2), .val (.int fr), .val (.int ex1), .unset] [])) _
          refine XS.iconst X95.here hx rfl (hb hby at_133) ?_
          show Steps p.tables e below (T95.setTop (mkF m 134 #[.val (.int x0), .val (.int x1), .val (.int x2), .val (.int x3), .val (.int xf), .val (.ref b1), .val (.ref b2), .val (.int fr), .val (.int ex1), .unset] [(.int (0 : Int32))])) _
          refine XS.istore X95.here hx rfl (hb hby at_134) rfl (l' := #[.val (.int x0), .val (.int x1), .val (.int x2), .val (.int x3), .val (.int xf), .val (.ref b1), .val (.ref b2), .val (.int fr), .val (.int (0 : Int32)), .unset]) rfl ?_
          show Steps p.tables e below (T95.setTop (mkF m 136 #[.val (.int x0), .val (.int x1), .val (.int x2), .val (.int x3), .val (.int xf), .val (.ref b1), .val (.ref b2), .val (.int fr), .val (.int (0 : Int32)), .unset] [])) _
          exact kt)
        exact ⟨(0 : Int32), _, _, X95, eq95, N95, by unfold own_e0; rw [if_neg q1, if_neg q2], st98⟩
  have st99 : own_Go p e below (T90.setTop (mkF m 139 #[.val (.int x0), .val (.int x1), .val (.int x2), .val (.int x3), .val (.int xf), .val (.ref b1), .val (.ref b2), .val (.int fr), .val (.int ex0), .unset] [(.int (4 : Int32)), (.int fr)])) (s₁.setTop (entryFrame m #[(.int x0), (.int x1), (.int x2), (.int x3), (.int xf)] maxLocals)) := fun t kt => st90 t (by
    show Steps p.tables e below (T90.setTop (mkF m 136 #[.val (.int x0), .val (.int x1), .val (.int x2), .val (.int x3), .val (.int xf), .val (.ref b1), .val (.ref b2), .val (.int fr), .val (.int ex0), .unset] [])) _
    refine XS.iload X90.here hx rfl (hb hby at_136) rfl ?_
    show Steps p.tables e below (T90.setTop (mkF m 138 #[.val (.int x0), .val (.int x1), .val (.int x2), .val (.int x3), .val (.int xf), .val (.ref b1), .val (.ref b2), .val (.int fr), .val (.int ex0), .unset] [(.int fr)])) _
    refine XS.iconst X90.here hx rfl (hb hby at_138) ?_
    show Steps p.tables e below (T90.setTop (mkF m 139 #[.val (.int x0), .val (.int x1), .val (.int x2), .val (.int x3), .val (.int xf), .val (.ref b1), .val (.ref b2), .val (.int fr), .val (.int ex0), .unset] [(.int (4 : Int32)), (.int fr)])) _
    exact kt)
  obtain ⟨ex4, hj100, st100⟩ : ∃ (ex4 : Int32), (ex4 = own_ex fr ch0 ch1 ch2 ch3) ∧ own_Go p e below (T90.setTop (mkF m 146 #[.val (.int x0), .val (.int x1), .val (.int x2), .val (.int x3), .val (.int xf), .val (.ref b1), .val (.ref b2), .val (.int fr), .val (.int ex4), .unset] [])) (s₁.setTop (entryFrame m #[(.int x0), (.int x1), (.int x2), (.int x3), (.int xf)] maxLocals)) := by
    by_cases q1 : fr < (4 : Int32)
    · have st101 : own_Go p e below (T90.setTop (mkF m 146 #[.val (.int x0), .val (.int x1), .val (.int x2), .val (.int x3), .val (.int xf), .val (.ref b1), .val (.ref b2), .val (.int fr), .val (.int ex0), .unset] [])) (s₁.setTop (entryFrame m #[(.int x0), (.int x1), (.int x2), (.int x3), (.int xf)] maxLocals)) := fun t kt => st99 t (by
        show Steps p.tables e below (T90.setTop (mkF m 139 #[.val (.int x0), .val (.int x1), .val (.int x2), .val (.int x3), .val (.int xf), .val (.ref b1), .val (.ref b2), .val (.int fr), .val (.int ex0), .unset] [(.int (4 : Int32)), (.int fr)])) _
        refine XS.icmpYes X90.here hx rfl (pc0 := 139) (pc' := 146) rfl (hb hby at_139) rfl (tlt q1).1 (by decide) (by decide) ?_
        show Steps p.tables e below (T90.setTop (mkF m 146 #[.val (.int x0), .val (.int x1), .val (.int x2), .val (.int x3), .val (.int xf), .val (.ref b1), .val (.ref b2), .val (.int fr), .val (.int ex0), .unset] [])) _
        exact kt)
      exact ⟨ex0, by unfold own_ex; rw [if_pos q1]; exact hj90, st101⟩
    · have st102 : own_Go p e below (T90.setTop (mkF m 146 #[.val (.int x0), .val (.int x1), .val (.int x2), .val (.int x3), .val (.int xf), .val (.ref b1), .val (.ref b2), .val (.int fr), .val (.int fr), .unset] [])) (s₁.setTop (entryFrame m #[(.int x0), (.int x1), (.int x2), (.int x3), (.int xf)] maxLocals)) := fun t kt => st99 t (by
        show Steps p.tables e below (T90.setTop (mkF m 139 #[.val (.int x0), .val (.int x1), .val (.int x2), .val (.int x3), .val (.int xf), .val (.ref b1), .val (.ref b2), .val (.int fr), .val (.int ex0), .unset] [(.int (4 : Int32)), (.int fr)])) _
        refine XS.icmpNo X90.here hx rfl (hb hby at_139) rfl (flt q1).1 ?_
        show Steps p.tables e below (T90.setTop (mkF m 142 #[.val (.int x0), .val (.int x1), .val (.int x2), .val (.int x3), .val (.int xf), .val (.ref b1), .val (.ref b2), .val (.int fr), .val (.int ex0), .unset] [])) _
        refine XS.iload X90.here hx rfl (hb hby at_142) rfl ?_
        show Steps p.tables e below (T90.setTop (mkF m 144 #[.val (.int x0), .val (.int x1), .val (.int x2), .val (.int x3), .val (.int xf), .val (.ref b1), .val (.ref b2), .val (.int fr), .val (.int ex0), .unset] [(.int fr)])) _
        refine XS.istore X90.here hx rfl (hb hby at_144) rfl (l' := #[.val (.int x0), .val (.int x1), .val (.int x2), .val (.int x3), .val (.int xf), .val (.ref b1), .val (.ref b2), .val (.int fr), .val (.int fr), .unset]) rfl ?_
        show Steps p.tables e below (T90.setTop (mkF m 146 #[.val (.int x0), .val (.int x1), .val (.int x2), .val (.int x3), .val (.int xf), .val (.ref b1), .val (.ref b2), .val (.int fr), .val (.int fr), .unset] [])) _
        exact kt)
      exact ⟨fr, by unfold own_ex; rw [if_neg q1], st102⟩
  have st103 : own_Go p e below (T90.setTop (mkF m 150 #[.val (.int x0), .val (.int x1), .val (.int x2), .val (.int x3), .val (.int xf), .val (.ref b1), .val (.ref b2), .val (.int fr), .val (.int ex4), .unset] [(.int fr), (.ref b2)])) (s₁.setTop (entryFrame m #[(.int x0), (.int x1), (.int x2), (.int x3), (.int xf)] maxLocals)) := fun t kt => st100 t (by
    show Steps p.tables e below (T90.setTop (mkF m 146 #[.val (.int x0), .val (.int x1), .val (.int x2), .val (.int x3), .val (.int xf), .val (.ref b1), .val (.ref b2), .val (.int fr), .val (.int ex4), .unset] [])) _
    refine XS.aload X90.here hx rfl (hb hby at_146) rfl rfl ?_
    show Steps p.tables e below (T90.setTop (mkF m 148 #[.val (.int x0), .val (.int x1), .val (.int x2), .val (.int x3), .val (.int xf), .val (.ref b1), .val (.ref b2), .val (.int fr), .val (.int ex4), .unset] [(.ref b2)])) _
    refine XS.iload X90.here hx rfl (hb hby at_148) rfl ?_
    show Steps p.tables e below (T90.setTop (mkF m 150 #[.val (.int x0), .val (.int x1), .val (.int x2), .val (.int x3), .val (.int xf), .val (.ref b1), .val (.ref b2), .val (.int fr), .val (.int ex4), .unset] [(.int fr), (.ref b2)])) _
    exact kt)
  have h6 := own_six xf
  rw [← h_fr] at h6
  rcases h6 with h6 | h6 | h6 | h6 | h6 | h6
  · have st104 : own_Go p e below (T90.setTop (mkF m 150 #[.val (.int x0), .val (.int x1), .val (.int x2), .val (.int x3), .val (.int xf), .val (.ref b1), .val (.ref b2), .val (.int (0 : Int32)), .val (.int ex4), .unset] [(.int (0 : Int32)), (.ref b2)])) (s₁.setTop (entryFrame m #[(.int x0), (.int x1), (.int x2), (.int x3), (.int xf)] maxLocals)) := fun t kt => st103 t (by
      show Steps p.tables e below (T90.setTop (mkF m 150 #[.val (.int x0), .val (.int x1), .val (.int x2), .val (.int x3), .val (.int xf), .val (.ref b1), .val (.ref b2), .val (.int fr), .val (.int ex4), .unset] [(.int fr), (.ref b2)])) _
      rw [show fr = (0 : Int32) from (h6)]
      show Steps p.tables e below (T90.setTop (mkF m 150 #[.val (.int x0), .val (.int x1), .val (.int x2), .val (.int x3), .val (.int xf), .val (.ref b1), .val (.ref b2), .val (.int (0 : Int32)), .val (.int ex4), .unset] [(.int (0 : Int32)), (.ref b2)])) _
      exact kt)
    obtain ⟨_, _, ⟨T105, L105, k105, n105⟩, -, X105, ⟨Lc105, hQ105, l105, y105, z105⟩, ls105⟩ := Jvm.LawKit.callS X90 hx (y := (⟨"com/example/datumbridge/datumbridge/cli/InputLines", "fieldEnd", "(Ljava/lang/String;I)I"⟩ : MethodName)) hown (mvT hZ (hw _ (List.mem_of_getElem? (i := 38) rfl))) (mvT hZ (hw _ (List.mem_of_getElem? (i := 39) rfl))) (mvT hZ (hw _ (List.mem_of_getElem? (i := 40) rfl))) (mvT hZ (hw _ (List.mem_of_getElem? (i := 41) rfl))) (by decide) (backOf (W := 0) (rm_fe0 l Z a0 hw [] b2 tq51 kq51 ch0 ch1 ch2 ch3 gz gf T51.heap n0 z57 Eq51 Vq51 Cq51 Aq51 hp O2 P5 O4 rG f52) hZ (hw _ (List.mem_of_getElem? (i := 41) rfl)) (hw _ (List.mem_of_getElem? (i := 40) rfl)) (by decide) (by decide)) (g := (mkF m 150 #[.val (.int x0), .val (.int x1), .val (.int x2), .val (.int x3), .val (.int xf), .val (.ref b1), .val (.ref b2), .val (.int (0 : Int32)), .val (.int ex4), .unset] [(.int (0 : Int32)), (.ref b2)])) rfl (by rw [hml]; rfl) (argsL := [(.ref b2), (.int (0 : Int32))]) (rest := []) (lenOf own_pd4 rfl) rfl (by show 2 * 0 + _ ≤ _; exact Nat.le_of_eq rfl) (hb hby at_150) (fun _ _ => ⟨rfl, e90, (by decide : 3 + 0 ≤ _), (by decide : 12 + 0 ≤ _)⟩)
    dsimp only [Pt.U, Pt.locs, Pt.cells, Pt.slots] at X105 l105 y105 z105 ls105 hQ105
    subst l105 y105 z105
    obtain ⟨rfl, Nq105, eq105⟩ := hQ105
    have N105 := Fr.app N90 Nq105
    have st106 : own_Go p e below (T105.setTop (mkF m 153 #[.val (.int x0), .val (.int x1), .val (.int x2), .val (.int x3), .val (.int xf), .val (.ref b1), .val (.ref b2), .val (.int (0 : Int32)), .val (.int ex4), .unset] [(.int (own_f0 ch0 ch1 ch2 ch3))])) (s₁.setTop (entryFrame m #[(.int x0), (.int x1), (.int x2), (.int x3), (.int xf)] maxLocals)) := fun t kt => st104 t (ls105 t kt)
    have hc107 : (own_f0 ch0 ch1 ch2 ch3) = ex4 := by rw [hj100, h6]; exact (own_x0 ch0 ch1 ch2 ch3).symm
    have st108 : own_Go p e below (T105.setTop (mkF m 167 #[.val (.int x0), .val (.int x1), .val (.int x2), .val (.int x3), .val (.int xf), .val (.ref b1), .val (.ref b2), .val (.int (0 : Int32)), .val (.int ex4), .val (.int (own_f0 ch0 ch1 ch2 ch3))] [(.int (1 : Int32))])) (s₁.setTop (entryFrame m #[(.int x0), (.int x1), (.int x2), (.int x3), (.int xf)] maxLocals)) := fun t kt => st106 t (by
      show Steps p.tables e below (T105.setTop (mkF m 153 #[.val (.int x0), .val (.int x1), .val (.int x2), .val (.int x3), .val (.int xf), .val (.ref b1), .val (.ref b2), .val (.int (0 : Int32)), .val (.int ex4), .unset] [(.int (own_f0 ch0 ch1 ch2 ch3))])) _
      refine XS.istore X105.here hx rfl (hb hby at_153) rfl (l' := #[.val (.int x0), .val (.int x1), .val (.int x2), .val (.int x3), .val (.int xf), .val (.ref b1), .val (.ref b2), .val (.int (0 : Int32)), .val (.int ex4), .val (.int (own_f0 ch0 ch1 ch2 ch3))]) rfl ?_
      show Steps p.tables e below (T105.setTop (mkF m 155 #[.val (.int x0), .val (.int x1), .val (.int x2), .val (.int x3), .val (.int xf), .val (.ref b1), .val (.ref b2), .val (.int (0 : Int32)), .val (.int ex4), .val (.int (own_f0 ch0 ch1 ch2 ch3))] [])) _
      refine XS.iload X105.here hx rfl (hb hby at_155) rfl ?_
      show Steps p.tables e below (T105.setTop (mkF m 157 #[.val (.int x0), .val (.int x1), .val (.int x2), .val (.int x3), .val (.int xf), .val (.ref b1), .val (.ref b2), .val (.int (0 : Int32)), .val (.int ex4), .val (.int (own_f0 ch0 ch1 ch2 ch3))] [(.int (own_f0 ch0 ch1 ch2 ch3))])) _
      refine XS.iload X105.here hx rfl (hb hby at_157) rfl ?_
      show Steps p.tables e below (T105.setTop (mkF m 159 #[.val (.int x0), .val (.int x1), .val (.int x2), .val (.int x3), .val (.int xf), .val (.ref b1), .val (.ref b2), .val (.int (0 : Int32)), .val (.int ex4), .val (.int (own_f0 ch0 ch1 ch2 ch3))] [(.int ex4), (.int (own_f0 ch0 ch1 ch2 ch3))])) _
      refine XS.icmpNo X105.here hx rfl (hb hby at_159) rfl (teq hc107).2 ?_
      show Steps p.tables e below (T105.setTop (mkF m 162 #[.val (.int x0), .val (.int x1), .val (.int x2), .val (.int x3), .val (.int xf), .val (.ref b1), .val (.ref b2), .val (.int (0 : Int32)), .val (.int ex4), .val (.int (own_f0 ch0 ch1 ch2 ch3))] [])) _
      refine XS.iconst X105.here hx rfl (hb hby at_162) ?_
      show Steps p.tables e below (T105.setTop (mkF m 163 #[.val (.int x0), .val (.int x1), .val (.int x2), .val (.int x3), .val (.int xf), .val (.ref b1), .val (.ref b2), .val (.int (0 : Int32)), .val (.int ex4), .val (.int (own_f0 ch0 ch1 ch2 ch3))] [(.int (1 : Int32))])) _
      refine XS.goto X105.here hx rfl (pc0 := 163) (pc' := 167) rfl (hb hby at_163) (by decide) (by decide) ?_
      show Steps p.tables e below (T105.setTop (mkF m 167 #[.val (.int x0), .val (.int x1), .val (.int x2), .val (.int x3), .val (.int xf), .val (.ref b1), .val (.ref b2), .val (.int (0 : Int32)), .val (.int ex4), .val (.int (own_f0 ch0 ch1 ch2 ch3))] [(.int (1 : Int32))])) _
      exact kt)
    obtain ⟨fs, hr, hrun, hended, hW, hsame⟩ := X105.leave (v := (some (.int (1 : Int32)))) (fun h => by rw [Bd.returns] at h; cases h)
    refine ⟨_, _, st108 _ ?_, hrun, hended, _, _, rfl, ?_, ⟨_, rfl⟩, hW, hsame.mono (by decide) (by decide)⟩
    · exact retN X105 hx (t := .boolean) Bd.returns (by simp) (hb hby at_167) hr
    · show Q_rm_law Z x0 x1 x2 x3 xf gz gf h0 n0 _ T105.heap _
      rw [eq105]
      exact ⟨rfl, N105⟩
  · have st109 : own_Go p e below (T90.setTop (mkF m 150 #[.val (.int x0), .val (.int x1), .val (.int x2), .val (.int x3), .val (.int xf), .val (.ref b1), .val (.ref b2), .val (.int (1 : Int32)), .val (.int ex4), .unset] [(.int (1 : Int32)), (.ref b2)])) (s₁.setTop (entryFrame m #[(.int x0), (.int x1), (.int x2), (.int x3), (.int xf)] maxLocals)) := fun t kt => st103 t (by
      show Steps p.tables e below (T90.setTop (mkF m 150 #[.val (.int x0), .val (.int x1), .val (.int x2), .val (.int x3), .val (.int xf), .val (.ref b1), .val (.ref b2), .val (.int fr), .val (.int ex4), .unset] [(.int fr), (.ref b2)])) _
      rw [show fr = (1 : Int32) from (h6)]
      show Steps p.tables e below (T90.setTop (mkF m 150 #[.val (.int x0), .val (.int x1), .val (.int x2), .val (.int x3), .val (.int xf), .val (.ref b1), .val (.ref b2), .val (.int (1 : Int32)), .val (.int ex4), .unset] [(.int (1 : Int32)), (.ref b2)])) _
      exact kt)
    obtain ⟨_, _, ⟨T110, L110, k110, n110⟩, -, X110, ⟨Lc110, hQ110, l110, y110, z110⟩, ls110⟩ := Jvm.LawKit.callS X90 hx (y := (⟨"com/example/datumbridge/datumbridge/cli/InputLines", "fieldEnd", "(Ljava/lang/String;I)I"⟩ : MethodName)) hown (mvT hZ (hw _ (List.mem_of_getElem? (i := 38) rfl))) (mvT hZ (hw _ (List.mem_of_getElem? (i := 39) rfl))) (mvT hZ (hw _ (List.mem_of_getElem? (i := 40) rfl))) (mvT hZ (hw _ (List.mem_of_getElem? (i := 41) rfl))) (by decide) (backOf (W := 0) (rm_fe1 l Z a0 hw [] b2 tq51 kq51 ch0 ch1 ch2 ch3 gz gf T51.heap n0 z57 Eq51 Vq51 Cq51 Aq51 hp O2 P5 O4 rG f52) hZ (hw _ (List.mem_of_getElem? (i := 41) rfl)) (hw _ (List.mem_of_getElem? (i := 40) rfl)) (by decide) (by decide)) (g := (mkF m 150 #[.val (.int x0), .val (.int x1), .val (.int x2), .val (.int x3), .val (.int xf), .val (.ref b1), .val (.ref b2), .val (.int (1 : Int32)), .val (.int ex4), .unset] [(.int (1 : Int32)), (.ref b2)])) rfl (by rw [hml]; rfl) (argsL := [(.ref b2), (.int (1 : Int32))]) (rest := []) (lenOf own_pd4 rfl) rfl (by show 2 * 0 + _ ≤ _; exact Nat.le_of_eq rfl) (hb hby at_150) (fun _ _ => ⟨rfl, e90, (by decide : 3 + 0 ≤ _), (by decide : 12 + 0 ≤ _)⟩)
    dsimp only [Pt.U, Pt.locs, Pt.cells, Pt.slots] at X110 l110 y110 z110 ls110 hQ110
    subst l110 y110 z110
    obtain ⟨rfl, Nq110, eq110⟩ := hQ110
    have N110 := Fr.app N90 Nq110
    have st111 : own_Go p e below (T110.setTop (mkF m 153 #[.val (.int x0), .val (.int x1), .val (.int x2), .val (.int x3), .val (.int xf), .val (.ref b1), .val (.ref b2), .val (.int (1 : Int32)), .val (.int ex4), .unset] [(.int (own_f1 ch1 ch2 ch3))])) (s₁.setTop (entryFrame m #[(.int x0), (.int x1), (.int x2), (.int x3), (.int xf)] maxLocals)) := fun t kt => st109 t (ls110 t kt)
    have hc112 : (own_f1 ch1 ch2 ch3) = ex4 := by rw [hj100, h6]; exact (own_x1 ch0 ch1 ch2 ch3).symm
    have st113 : own_Go p e below (T110.setTop (mkF m 167 #[.val (.int x0), .val (.int x1), .val (.int x2), .val (.int x3), .val (.int xf), .val (.ref b1), .val (.ref b2), .val (.int (1 : Int32)), .val (.int ex4), .val (.int (own_f1 ch1 ch2 ch3))] [(.int (1 : Int32))])) (s₁.setTop (entryFrame m #[(.int x0), (.int x1), (.int x2), (.int x3), (.int xf)] maxLocals)) := fun t kt => st111 t (by
      show Steps p.tables e below (T110.setTop (mkF m 153 #[.val (.int x0), .val (.int x1), .val (.int x2), .val (.int x3), .val (.int xf), .val (.ref b1), .val (.ref b2), .val (.int (1 : Int32)), .val (.int ex4), .unset] [(.int (own_f1 ch1 ch2 ch3))])) _
      refine XS.istore X110.here hx rfl (hb hby at_153) rfl (l' := #[.val (.int x0), .val (.int x1), .val (.int x2), .val (.int x3), .val (.int xf), .val (.ref b1), .val (.ref b2), .val (.int (1 : Int32)), .val (.int ex4), .val (.int (own_f1 ch1 ch2 ch3))]) rfl ?_
      show Steps p.tables e below (T110.setTop (mkF m 155 #[.val (.int x0), .val (.int x1), .val (.int x2), .val (.int x3), .val (.int xf), .val (.ref b1), .val (.ref b2), .val (.int (1 : Int32)), .val (.int ex4), .val (.int (own_f1 ch1 ch2 ch3))] [])) _
      refine XS.iload X110.here hx rfl (hb hby at_155) rfl ?_
      show Steps p.tables e below (T110.setTop (mkF m 157 #[.val (.int x0), .val (.int x1), .val (.int x2), .val (.int x3), .val (.int xf), .val (.ref b1), .val (.ref b2), .val (.int (1 : Int32)), .val (.int ex4), .val (.int (own_f1 ch1 ch2 ch3))] [(.int (own_f1 ch1 ch2 ch3))])) _
      refine XS.iload X110.here hx rfl (hb hby at_157) rfl ?_
      show Steps p.tables e below (T110.setTop (mkF m 159 #[.val (.int x0), .val (.int x1), .val (.int x2), .val (.int x3), .val (.int xf), .val (.ref b1), .val (.ref b2), .val (.int (1 : Int32)), .val (.int ex4), .val (.int (own_f1 ch1 ch2 ch3))] [(.int ex4), (.int (own_f1 ch1 ch2 ch3))])) _
      refine XS.icmpNo X110.here hx rfl (hb hby at_159) rfl (teq hc112).2 ?_
      show Steps p.tables e below (T110.setTop (mkF m 162 #[.val (.int x0), .val (.int x1), .val (.int x2), .val (.int x3), .val (.int xf), .val (.ref b1), .val (.ref b2), .val (.int (1 : Int32)), .val (.int ex4), .val (.int (own_f1 ch1 ch2 ch3))] [])) _
      refine XS.iconst X110.here hx rfl (hb hby at_162) ?_
      show Steps p.tables e below (T110.setTop (mkF m 163 #[.val (.int x0), .val (.int x1), .val (.int x2), .val (.int x3), .val (.int xf), .val (.ref b1), .val (.ref b2), .val (.int (1 : Int32)), .val (.int ex4), .val (.int (own_f1 ch1 ch2 ch3))] [(.int (1 : Int32))])) _
      refine XS.goto X110.here hx rfl (pc0 := 163) (pc' := 167) rfl (hb hby at_163) (by decide) (by decide) ?_
      show Steps p.tables e below (T110.setTop (mkF m 167 #[.val (.int x0), .val (.int x1), .val (.int x2), .val (.int x3), .val (.int xf), .val (.ref b1), .val (.ref b2), .val (.int (1 : Int32)), .val (.int ex4), .val (.int (own_f1 ch1 ch2 ch3))] [(.int (1 : Int32))])) _
      exact kt)
    obtain ⟨fs, hr, hrun, hended, hW, hsame⟩ := X110.leave (v := (some (.int (1 : Int32)))) (fun h => by rw [Bd.returns] at h; cases h)
    refine ⟨_, _, st113 _ ?_, hrun, hended, _, _, rfl, ?_, ⟨_, rfl⟩, hW, hsame.mono (by decide) (by decide)⟩
    · exact retN X110 hx (t := .boolean) Bd.returns (by simp) (hb hby at_167) hr
    · show Q_rm_law Z x0 x1 x2 x3 xf gz gf h0 n0 _ T110.heap _
      rw [eq110]
      exact ⟨rfl, N110⟩
  · have st114 : own_Go p e below (T90.setTop (mkF m 150 #[.val (.int x0), .val (.int x1), .val (.int x2), .val (.int x3), .val (.int xf), .val (.ref b1), .val (.ref b2), .val (.int (2 : Int32)), .val (.int ex4), .unset] [(.int (2 : Int32)), (.ref b2)])) (s₁.setTop (entryFrame m #[(.int x0), (.int x1), (.int x2), (.int x3), (.int xf)] maxLocals)) := fun t kt => st103 t (by
      show Steps p.tables e below (T90.setTop (mkF m 150 #[.val (.int x0), .val (.int x1), .val (.int x2), .val (.int x3), .val (.int xf), .val (.ref b1), .val (.ref b2), .val (.int fr), .val (.int ex4), .unset] [(.int fr), (.ref b2)])) _
      rw [show fr = (2 : Int32) from (h6)]
      show Steps p.tables e below (T90.setTop (mkF m 150 #[.val (.int x0), .val (.int x1), .val (.int x2), .val (.int x3), .val (.int xf), .val (.ref b1), .val (.ref b2), .val (.int (2 : Int32)), .val (.int ex4), .unset] [(.int (2 : Int32)), (.ref b2)])) _
      exact kt)
    obtain ⟨_, _, ⟨T115, L115, k115, n115⟩, -, X115, ⟨Lc115, hQ115, l115, y115, z115⟩, ls115⟩ := Jvm.LawKit.callS X90 hx (y := (⟨"com/example/datumbridge/datumbridge/cli/InputLines", "fieldEnd", "(Ljava/lang/String;I)I"⟩ : MethodName)) hown (mvT hZ (hw _ (List.mem_of_getElem? (i := 38) rfl))) (mvT hZ (hw _ (List.mem_of_getElem? (i := 39) rfl))) (mvT hZ (hw _ (List.mem_of_getElem? (i := 40) rfl))) (mvT hZ (hw _ (List.mem_of_getElem? (i := 41) rfl))) (by decide) (backOf (W := 0) (rm_fe2 l Z a0 hw [] b2 tq51 kq51 ch0 ch1 ch2 ch3 gz gf T51.heap n0 z57 Eq51 Vq51 Cq51 Aq51 hp O2 P5 O4 rG f52) hZ (hw _ (List.mem_of_getElem? (i := 41) rfl)) (hw _ (List.mem_of_getElem? (i := 40) rfl)) (by decide) (by decide)) (g := (mkF m 150 #[.val (.int x0), .val (.int x1), .val (.int x2), .val (.int x3), .val (.int xf), .val (.ref b1), .val (.ref b2), .val (.int (2 : Int32)), .val (.int ex4), .unset] [(.int (2 : Int32)), (.ref b2)])) rfl (by rw [hml]; rfl) (argsL := [(.ref b2), (.int (2 : Int32))]) (rest := []) (lenOf own_pd4 rfl) rfl (by show 2 * 0 + _ ≤ _; exact Nat.le_of_eq rfl) (hb hby at_150) (fun _ _ => ⟨rfl, e90, (by decide : 3 + 0 ≤ _), (by decide : 12 + 0 ≤ _)⟩)
    dsimp only [Pt.U, Pt.locs, Pt.cells, Pt.slots] at X115 l115 y115 z115 ls115 hQ115
    subst l115 y115 z115
    obtain ⟨rfl, Nq115, eq115⟩ := hQ115
    have N115 := Fr.app N90 Nq115
    have st116 : own_Go p e below (T115.setTop (mkF m 153 #[.val (.int x0), .val (.int x1), .val (.int x2), .val (.int x3), .val (.int xf), .val (.ref b1), .val (.ref b2), .val (.int (2 : Int32)), .val (.int ex4), .unset] [(.int (own_f2 ch2 ch3))])) (s₁.setTop (entryFrame m #[(.int x0), (.int x1), (.int x2), (.int x3), (.int xf)] maxLocals)) := fun t kt => st114 t (ls115 t kt)
    have hc117 : (own_f2 ch2 ch3) = ex4 := by rw [hj100, h6]; exact (own_x2 ch0 ch1 ch2 ch3).symm
    have st118 : own_Go p e below (T115.setTop (mkF m 167 #[.val (.int x0), .val (.int x1), .val (.int x2), .val (.int x3), .val (.int xf), .val (.ref b1), .val (.ref b2), .val (.int (2 : Int32)), .val (.int ex4), .val (.int (own_f2 ch2 ch3))] [(.int (1 : Int32))])) (s₁.setTop (entryFrame m #[(.int x0), (.int x1), (.int x2), (.int x3), (.int xf)] maxLocals)) := fun t kt => st116 t (by
      show Steps p.tables e below (T115.setTop (mkF m 153 #[.val (.int x0), .val (.int x1), .val (.int x2), .val (.int x3), .val (.int xf), .val (.ref b1), .val (.ref b2), .val (.int (2 : Int32)), .val (.int ex4), .unset] [(.int (own_f2 ch2 ch3))])) _
      refine XS.istore X115.here hx rfl (hb hby at_153) rfl (l' := #[.val (.int x0), .val (.int x1), .val (.int x2), .val (.int x3), .val (.int xf), .val (.ref b1), .val (.ref b2), .val (.int (2 : Int32)), .val (.int ex4), .val (.int (own_f2 ch2 ch3))]) rfl ?_
      show Steps p.tables e below (T115.setTop (mkF m 155 #[.val (.int x0), .val (.int x1), .val (.int x2), .val (.int x3), .val (.int xf), .val (.ref b1), .val (.ref b2), .val (.int (2 : Int32)), .val (.int ex4), .val (.int (own_f2 ch2 ch3))] [])) _
      refine XS.iload X115.here hx rfl (hb hby at_155) rfl ?_
      show Steps p.tables e below (T115.setTop (mkF m 157 #[.val (.int x0), .val (.int x1), .val (.int x2), .val (.int x3), .val (.int xf), .val (.ref b1), .val (.ref b2), .val (.int (2 : Int32)), .val (.int ex4), .val (.int (own_f2 ch2 ch3))] [(.int (own_f2 ch2 ch3))])) _
      refine XS.iload X115.here hx rfl (hb hby at_157) rfl ?_
      show Steps p.tables e below (T115.setTop (mkF m 159 #[.val (.int x0), .val (.int x1), .val (.int x2), .val (.int x3), .val (.int xf), .val (.ref b1), .val (.ref b2), .val (.int (2 : Int32)), .val (.int ex4), .val (.int (own_f2 ch2 ch3))] [(.int ex4), (.int (own_f2 ch2 ch3))])) _
      refine XS.icmpNo X115.here hx rfl (hb hby at_159) rfl (teq hc117).2 ?_
      show Steps p.tables e below (T115.setTop (mkF m 162 #[.val (.int x0), .val (.int x1), .val (.int x2), .val (.int x3), .val (.int xf), .val (.ref b1), .val (.ref b2), .val (.int (2 : Int32)), .val (.int ex4), .val (.int (own_f2 ch2 ch3))] [])) _
      refine XS.iconst X115.here hx rfl (hb hby at_162) ?_
      show Steps p.tables e below (T115.setTop (mkF m 163 #[.val (.int x0), .val (.int x1), .val (.int x2), .val (.int x3), .val (.int xf), .val (.ref b1), .val (.ref b2), .val (.int (2 : Int32)), .val (.int ex4), .val (.int (own_f2 ch2 ch3))] [(.int (1 : Int32))])) _
      refine XS.goto X115.here hx rfl (pc0 := 163) (pc' := 167) rfl (hb hby at_163) (by decide) (by decide) ?_
      show Steps p.tables e below (T115.setTop (mkF m 167 #[.val (.int x0), .val (.int x1), .val (.int x2), .val (.int x3), .val (.int xf), .val (.ref b1), .val (.ref b2), .val (.int (2 : Int32)), .val (.int ex4), .val (.int (own_f2 ch2 ch3))] [(.int (1 : Int32))])) _
      exact kt)
    obtain ⟨fs, hr, hrun, hended, hW, hsame⟩ := X115.leave (v := (some (.int (1 : Int32)))) (fun h => by rw [Bd.returns] at h; cases h)
    refine ⟨_, _, st118 _ ?_, hrun, hended, _, _, rfl, ?_, ⟨_, rfl⟩, hW, hsame.mono (by decide) (by decide)⟩
    · exact retN X115 hx (t := .boolean) Bd.returns (by simp) (hb hby at_167) hr
    · show Q_rm_law Z x0 x1 x2 x3 xf gz gf h0 n0 _ T115.heap _
      rw [eq115]
      exact ⟨rfl, N115⟩
  · have st119 : own_Go p e below (T90.setTop (mkF m 150 #[.val (.int x0), .val (.int x1), .val (.int x2), .val (.int x3), .val (.int xf), .val (.ref b1), .val (.ref b2), .val (.int (3 : Int32)), .val (.int ex4), .unset] [(.int (3 : Int32)), (.ref b2)])) (s₁.setTop (entryFrame m #[(.int x0), (.int x1), (.int x2), (.int x3), (.int xf)] maxLocals)) := fun t kt => st103 t (by
      show Steps p.tables e below (T90.setTop (mkF m 150 #[.val (.int x0), .val (.int x1), .val (.int x2), .val (.int x3), .val (.int xf), .val (.ref b1), .val (.ref b2), .val (.int fr), .val (.int ex4), .unset] [(.int fr), (.ref b2)])) _
      rw [show fr = (3 : Int32) from (h6)]
      show Steps p.tables e below (T90.setTop (mkF m 150 #[.val (.int x0), .val (.int x1), .val (.int x2), .val (.int x3), .val (.int xf), .val (.ref b1), .val (.ref b2), .val (.int (3 : Int32)), .val (.int ex4), .unset] [(.int (3 : Int32)), (.ref b2)])) _
      exact kt)
    obtain ⟨_, _, ⟨T120, L120, k120, n120⟩, -, X120, ⟨Lc120, hQ120, l120, y120, z120⟩, ls120⟩ := Jvm.LawKit.callS X90 hx (y := (⟨"com/example/datumbridge/datumbridge/cli/InputLines", "fieldEnd", "(Ljava/lang/String;I)I"⟩ : MethodName)) hown (mvT hZ (hw _ (List.mem_of_getElem? (i := 38) rfl))) (mvT hZ (hw _ (List.mem_of_getElem? (i := 39) rfl))) (mvT hZ (hw _ (List.mem_of_getElem? (i := 40) rfl))) (mvT hZ (hw _ (List.mem_of_getElem? (i := 41) rfl))) (by decide) (backOf (W := 0) (rm_fe3 l Z a0 hw [] b2 tq51 kq51 ch0 ch1 ch2 ch3 gz gf T51.heap n0 z57 Eq51 Vq51 Cq51 Aq51 hp O2 P5 O4 rG f52) hZ (hw _ (List.mem_of_getElem? (i := 41) rfl)) (hw _ (List.mem_of_getElem? (i := 40) rfl)) (by decide) (by decide)) (g := (mkF m 150 #[.val (.int x0), .val (.int x1), .val (.int x2), .val (.int x3), .val (.int xf), .val (.ref b1), .val (.ref b2), .val (.int (3 : Int32)), .val (.int ex4), .unset] [(.int (3 : Int32)), (.ref b2)])) rfl (by rw [hml]; rfl) (argsL := [(.ref b2), (.int (3 : Int32))]) (rest := []) (lenOf own_pd4 rfl) rfl (by show 2 * 0 + _ ≤ _; exact Nat.le_of_eq rfl) (hb hby at_150) (fun _ _ => ⟨rfl, e90, (by decide : 3 + 0 ≤ _), (by decide : 12 + 0 ≤ _)⟩)
    dsimp only [Pt.U, Pt.locs, Pt.cells, Pt.slots] at X120 l120 y120 z120 ls120 hQ120
    subst l120 y120 z120
    obtain ⟨rfl, Nq120, eq120⟩ := hQ120
    have N120 := Fr.app N90 Nq120
    have st121 : own_Go p e below (T120.setTop (mkF m 153 #[.val (.int x0), .val (.int x1), .val (.int x2), .val (.int x3), .val (.int xf), .val (.ref b1), .val (.ref b2), .val (.int (3 : Int32)), .val (.int ex4), .unset] [(.int (own_f3 ch3))])) (s₁.setTop (entryFrame m #[(.int x0), (.int x1), (.int x2), (.int x3), (.int xf)] maxLocals)) := fun t kt => st119 t (ls120 t kt)
    have hc122 : (own_f3 ch3) = ex4 := by rw [hj100, h6]; exact (own_x3 ch0 ch1 ch2 ch3).symm
    have st123 : own_Go p e below (T120.setTop (mkF m 167 #[.val (.int x0), .val (.int x1), .val (.int x2), .val (.int x3), .val (.int xf), .val (.ref b1), .val (.ref b2), .val (.int (3 : Int32)), .val (.int ex4), .val (.int (own_f3 ch3))] [(.int (1 : Int32))])) (s₁.setTop (entryFrame m #[(.int x0), (.int x1), (.int x2), (.int x3), (.int xf)] maxLocals)) := fun t kt => st121 t (by
      show Steps p.tables e below (T120.setTop (mkF m 153 #[.val (.int x0), .val (.int x1), .val (.int x2), .val (.int x3), .val (.int xf), .val (.ref b1), .val (.ref b2), .val (.int (3 : Int32)), .val (.int ex4), .unset] [(.int (own_f3 ch3))])) _
      refine XS.istore X120.here hx rfl (hb hby at_153) rfl (l' := #[.val (.int x0), .val (.int x1), .val (.int x2), .val (.int x3), .val (.int xf), .val (.ref b1), .val (.ref b2), .val (.int (3 : Int32)), .val (.int ex4), .val (.int (own_f3 ch3))]) rfl ?_
      show Steps p.tables e below (T120.setTop (mkF m 155 #[.val (.int x0), .val (.int x1), .val (.int x2), .val (.int x3), .val (.int xf), .val (.ref b1), .val (.ref b2), .val (.int (3 : Int32)), .val (.int ex4), .val (.int (own_f3 ch3))] [])) _
      refine XS.iload X120.here hx rfl (hb hby at_155) rfl ?_
      show Steps p.tables e below (T120.setTop (mkF m 157 #[.val (.int x0), .val (.int x1), .val (.int x2), .val (.int x3), .val (.int xf), .val (.ref b1), .val (.ref b2), .val (.int (3 : Int32)), .val (.int ex4), .val (.int (own_f3 ch3))] [(.int (own_f3 ch3))])) _
      refine XS.iload X120.here hx rfl (hb hby at_157) rfl ?_
      show Steps p.tables e below (T120.setTop (mkF m 159 #[.val (.int x0), .val (.int x1), .val (.int x2), .val (.int x3), .val (.int xf), .val (.ref b1), .val (.ref b2), .val (.int (3 : Int32)), .val (.int ex4), .val (.int (own_f3 ch3))] [(.int ex4), (.int (own_f3 ch3))])) _
      refine XS.icmpNo X120.here hx rfl (hb hby at_159) rfl (teq hc122).2 ?_
      show Steps p.tables e below (T120.setTop (mkF m 162 #[.val (.int x0), .val (.int x1), .val (.int x2), .val (.int x3), .val (.int xf), .val (.ref b1), .val (.ref b2), .val (.int (3 : Int32)), .val (.int ex4), .val (.int (own_f3 ch3))] [])) _
      refine XS.iconst X120.here hx rfl (hb hby at_162) ?_
      show Steps p.tables e below (T120.setTop (mkF m 163 #[.val (.int x0), .val (.int x1), .val (.int x2), .val (.int x3), .val (.int xf), .val (.ref b1), .val (.ref b2), .val (.int (3 : Int32)), .val (.int ex4), .val (.int (own_f3 ch3))] [(.int (1 : Int32))])) _
      refine XS.goto X120.here hx rfl (pc0 := 163) (pc' := 167) rfl (hb hby at_163) (by decide) (by decide) ?_
      show Steps p.tables e below (T120.setTop (mkF m 167 #[.val (.int x0), .val (.int x1), .val (.int x2), .val (.int x3), .val (.int xf), .val (.ref b1), .val (.ref b2), .val (.int (3 : Int32)), .val (.int ex4), .val (.int (own_f3 ch3))] [(.int (1 : Int32))])) _
      exact kt)
    obtain ⟨fs, hr, hrun, hended, hW, hsame⟩ := X120.leave (v := (some (.int (1 : Int32)))) (fun h => by rw [Bd.returns] at h; cases h)
    refine ⟨_, _, st123 _ ?_, hrun, hended, _, _, rfl, ?_, ⟨_, rfl⟩, hW, hsame.mono (by decide) (by decide)⟩
    · exact retN X120 hx (t := .boolean) Bd.returns (by simp) (hb hby at_167) hr
    · show Q_rm_law Z x0 x1 x2 x3 xf gz gf h0 n0 _ T120.heap _
      rw [eq120]
      exact ⟨rfl, N120⟩
  · have st124 : own_Go p e below (T90.setTop (mkF m 150 #[.val (.int x0), .val (.int x1), .val (.int x2), .val (.int x3), .val (.int xf), .val (.ref b1), .val (.ref b2), .val (.int (4 : Int32)), .val (.int ex4), .unset] [(.int (4 : Int32)), (.ref b2)])) (s₁.setTop (entryFrame m #[(.int x0), (.int x1), (.int x2), (.int x3), (.int xf)] maxLocals)) := fun t kt => st103 t (by
      show Steps p.tables e below (T90.setTop (mkF m 150 #[.val (.int x0), .val (.int x1), .val (.int x2), .val (.int x3), .val (.int xf), .val (.ref b1), .val (.ref b2), .val (.int fr), .val (.int ex4), .unset] [(.int fr), (.ref b2)])) _
      rw [show fr = (4 : Int32) from (h6)]
      show Steps p.tables e below (T90.setTop (mkF m 150 #[.val (.int x0), .val (.int x1), .val (.int x2), .val (.int x3), .val (.int xf), .val (.ref b1), .val (.ref b2), .val (.int (4 : Int32)), .val (.int ex4), .unset] [(.int (4 : Int32)), (.ref b2)])) _
      exact kt)
    obtain ⟨_, _, ⟨T125, L125, k125, n125⟩, -, X125, ⟨Lc125, hQ125, l125, y125, z125⟩, ls125⟩ := Jvm.LawKit.callS X90 hx (y := (⟨"com/example/datumbridge/datumbridge/cli/InputLines", "fieldEnd", "(Ljava/lang/String;I)I"⟩ : MethodName)) hown (mvT hZ (hw _ (List.mem_of_getElem? (i := 38) rfl))) (mvT hZ (hw _ (List.mem_of_getElem? (i := 39) rfl))) (mvT hZ (hw _ (List.mem_of_getElem? (i := 40) rfl))) (mvT hZ (hw _ (List.mem_of_getElem? (i := 41) rfl))) (by decide) (backOf (W := 0) (rm_fe4 l Z a0 hw [] b2 tq51 kq51 ch0 ch1 ch2 ch3 gz gf T51.heap n0 z57 Eq51 Vq51 Cq51 Aq51 hp O2 P5 O4 rG f52) hZ (hw _ (List.mem_of_getElem? (i := 41) rfl)) (hw _ (List.mem_of_getElem? (i := 40) rfl)) (by decide) (by decide)) (g := (mkF m 150 #[.val (.int x0), .val (.int x1), .val (.int x2), .val (.int x3), .val (.int xf), .val (.ref b1), .val (.ref b2), .val (.int (4 : Int32)), .val (.int ex4), .unset] [(.int (4 : Int32)), (.ref b2)])) rfl (by rw [hml]; rfl) (argsL := [(.ref b2), (.int (4 : Int32))]) (rest := []) (lenOf own_pd4 rfl) rfl (by show 2 * 0 + _ ≤ _; exact Nat.le_of_eq rfl) (hb hby at_150) (fun _ _ => ⟨rfl, e90, (by decide : 3 + 0 ≤ _), (by decide : 12 + 0 ≤ _)⟩)
    dsimp only [Pt.U, Pt.locs, Pt.cells, Pt.slots] at X125 l125 y125 z125 ls125 hQ125
    subst l125 y125 z125
    obtain ⟨rfl, Nq125, eq125⟩ := hQ125
    have N125 := Fr.app N90 Nq125
    have st126 : own_Go p e below (T125.setTop (mkF m 153 #[.val (.int x0), .val (.int x1), .val (.int x2), .val (.int x3), .val (.int xf), .val (.ref b1), .val (.ref b2), .val (.int (4 : Int32)), .val (.int ex4), .unset] [(.int (4 : Int32))])) (s₁.setTop (entryFrame m #[(.int x0), (.int x1), (.int x2), (.int x3), (.int xf)] maxLocals)) := fun t kt => st124 t (ls125 t kt)
    have hc127 : (4 : Int32) = ex4 := by rw [hj100, h6]; exact (own_x4 ch0 ch1 ch2 ch3).symm
    have st128 : own_Go p e below (T125.setTop (mkF m 167 #[.val (.int x0), .val (.int x1), .val (.int x2), .val (.int x3), .val (.int xf), .val (.ref b1), .val (.ref b2), .val (.int (4 : Int32)), .val (.int ex4), .val (.int (4 : Int32))] [(.int (1 : Int32))])) (s₁.setTop (entryFrame m #[(.int x0), (.int x1), (.int x2), (.int x3), (.int xf)] maxLocals)) := fun t kt => st126 t (by
      show Steps p.tables e below (T125.setTop (mkF m 153 #[.val (.int x0), .val (.int x1), .val (.int x2), .val (.int x3), .val (.int xf), .val (.ref b1), .val (.ref b2), .val (.int (4 : Int32)), .val (.int ex4), .unset] [(.int (4 : Int32))])) _
      refine XS.istore X125.here hx rfl (hb hby at_153) rfl (l' := #[.val (.int x0), .val (.int x1), .val (.int x2), .val (.int x3), .val (.int xf), .val (.ref b1), .val (.ref b2), .val (.int (4 : Int32)), .val (.int ex4), .val (.int (4 : Int32))]) rfl ?_
      show Steps p.tables e below (T125.setTop (mkF m 155 #[.val (.int x0), .val (.int x1), .val (.int x2), .val (.int x3), .val (.int xf), .val (.ref b1), .val (.ref b2), .val (.int (4 : Int32)), .val (.int ex4), .val (.int (4 : Int32))] [])) _
      refine XS.iload X125.here hx rfl (hb hby at_155) rfl ?_
      show Steps p.tables e below (T125.setTop (mkF m 157 #[.val (.int x0), .val (.int x1), .val (.int x2), .val (.int x3), .val (.int xf), .val (.ref b1), .val (.ref b2), .val (.int (4 : Int32)), .val (.int ex4), .val (.int (4 : Int32))] [(.int (4 : Int32))])) _
      refine XS.iload X125.here hx rfl (hb hby at_157) rfl ?_
      show Steps p.tables e below (T125.setTop (mkF m 159 #[.val (.int x0), .val (.int x1), .val (.int x2), .val (.int x3), .val (.int xf), .val (.ref b1), .val (.ref b2), .val (.int (4 : Int32)), .val (.int ex4), .val (.int (4 : Int32))] [(.int ex4), (.int (4 : Int32))])) _
      refine XS.icmpNo X125.here hx rfl (hb hby at_159) rfl (teq hc127).2 ?_
      show Steps p.tables e below (T125.setTop (mkF m 162 #[.val (.int x0), .val (.int x1), .val (.int x2), .val (.int x3), .val (.int xf), .val (.ref b1), .val (.ref b2), .val (.int (4 : Int32)), .val (.int ex4), .val (.int (4 : Int32))] [])) _
      refine XS.iconst X125.here hx rfl (hb hby at_162) ?_
      show Steps p.tables e below (T125.setTop (mkF m 163 #[.val (.int x0), .val (.int x1), .val (.int x2), .val (.int x3), .val (.int xf), .val (.ref b1), .val (.ref b2), .val (.int (4 : Int32)), .val (.int ex4), .val (.int (4 : Int32))] [(.int (1 : Int32))])) _
      refine XS.goto X125.here hx rfl (pc0 := 163) (pc' := 167) rfl (hb hby at_163) (by decide) (by decide) ?_
      show Steps p.tables e below (T125.setTop (mkF m 167 #[.val (.int x0), .val (.int x1), .val (.int x2), .val (.int x3), .val (.int xf), .val (.ref b1), .val (.ref b2), .val (.int (4 : Int32)), .val (.int ex4), .val (.int (4 : Int32))] [(.int (1 : Int32))])) _
      exact kt)
    obtain ⟨fs, hr, hrun, hended, hW, hsame⟩ := X125.leave (v := (some (.int (1 : Int32)))) (fun h => by rw [Bd.returns] at h; cases h)
    refine ⟨_, _, st128 _ ?_, hrun, hended, _, _, rfl, ?_, ⟨_, rfl⟩, hW, hsame.mono (by decide) (by decide)⟩
    · exact retN X125 hx (t := .boolean) Bd.returns (by simp) (hb hby at_167) hr
    · show Q_rm_law Z x0 x1 x2 x3 xf gz gf h0 n0 _ T125.heap _
      rw [eq125]
      exact ⟨rfl, N125⟩
  · have st129 : own_Go p e below (T90.setTop (mkF m 150 #[.val (.int x0), .val (.int x1), .val (.int x2), .val (.int x3), .val (.int xf), .val (.ref b1), .val (.ref b2), .val (.int (5 : Int32)), .val (.int ex4), .unset] [(.int (5 : Int32)), (.ref b2)])) (s₁.setTop (entryFrame m #[(.int x0), (.int x1), (.int x2), (.int x3), (.int xf)] maxLocals)) := fun t kt => st103 t (by
      show Steps p.tables e below (T90.setTop (mkF m 150 #[.val (.int x0), .val (.int x1), .val (.int x2), .val (.int x3), .val (.int xf), .val (.ref b1), .val (.ref b2), .val (.int fr), .val (.int ex4), .unset] [(.int fr), (.ref b2)])) _
      rw [show fr = (5 : Int32) from (h6)]
      show Steps p.tables e below (T90.setTop (mkF m 150 #[.val (.int x0), .val (.int x1), .val (.int x2), .val (.int x3), .val (.int xf), .val (.ref b1), .val (.ref b2), .val (.int (5 : Int32)), .val (.int ex4), .unset] [(.int (5 : Int32)), (.ref b2)])) _
      exact kt)
    obtain ⟨_, _, ⟨T130, L130, k130, n130⟩, -, X130, ⟨Lc130, hQ130, l130, y130, z130⟩, ls130⟩ := Jvm.LawKit.callS X90 hx (y := (⟨"com/example/datumbridge/datumbridge/cli/InputLines", "fieldEnd", "(Ljava/lang/String;I)I"⟩ : MethodName)) hown (mvT hZ (hw _ (List.mem_of_getElem? (i := 38) rfl))) (mvT hZ (hw _ (List.mem_of_getElem? (i := 39) rfl))) (mvT hZ (hw _ (List.mem_of_getElem? (i := 40) rfl))) (mvT hZ (hw _ (List.mem_of_getElem? (i := 41) rfl))) (by decide) (backOf (W := 0) (rm_fe5 l Z a0 hw [] b2 tq51 kq51 ch0 ch1 ch2 ch3 gz gf T51.heap n0 z57 Eq51 Vq51 Cq51 Aq51 hp O2 P5 O4 rG f52) hZ (hw _ (List.mem_of_getElem? (i := 41) rfl)) (hw _ (List.mem_of_getElem? (i := 40) rfl)) (by decide) (by decide)) (g := (mkF m 150 #[.val (.int x0), .val (.int x1), .val (.int x2), .val (.int x3), .val (.int xf), .val (.ref b1), .val (.ref b2), .val (.int (5 : Int32)), .val (.int ex4), .unset] [(.int (5 : Int32)), (.ref b2)])) rfl (by rw [hml]; rfl) (argsL := [(.ref b2), (.int (5 : Int32))]) (rest := []) (lenOf own_pd4 rfl) rfl (by show 2 * 0 + _ ≤ _; exact Nat.le_of_eq rfl) (hb hby at_150) (fun _ _ => ⟨rfl, e90, (by decide : 3 + 0 ≤ _), (by decide : 12 + 0 ≤ _)⟩)
    dsimp only [Pt.U, Pt.locs, Pt.cells, Pt.slots] at X130 l130 y130 z130 ls130 hQ130
    subst l130 y130 z130
    obtain ⟨rfl, Nq130, eq130⟩ := hQ130
    have N130 := Fr.app N90 Nq130
    have st131 : own_Go p e below (T130.setTop (mkF m 153 #[.val (.int x0), .val (.int x1), .val (.int x2), .val (.int x3), .val (.int xf), .val (.ref b1), .val (.ref b2), .val (.int (5 : Int32)), .val (.int ex4), .unset] [(.int (5 : Int32))])) (s₁.setTop (entryFrame m #[(.int x0), (.int x1), (.int x2), (.int x3), (.int xf)] maxLocals)) := fun t kt => st129 t (ls130 t kt)
    have hc132 : (5 : Int32) = ex4 := by rw [hj100, h6]; exact (own_x5 ch0 ch1 ch2 ch3).symm
    have st133 : own_Go p e below (T130.setTop (mkF m 167 #[.val (.int x0), .val (.int x1), .val (.int x2), .val (.int x3), .val (.int xf), .val (.ref b1), .val (.ref b2), .val (.int (5 : Int32)), .val (.int ex4), .val (.int (5 : Int32))] [(.int (1 : Int32))])) (s₁.setTop (entryFrame m #[(.int x0), (.int x1), (.int x2), (.int x3), (.int xf)] maxLocals)) := fun t kt => st131 t (by
      show Steps p.tables e below (T130.setTop (mkF m 153 #[.val (.int x0), .val (.int x1), .val (.int x2), .val (.int x3), .val (.int xf), .val (.ref b1), .val (.ref b2), .val (.int (5 : Int32)), .val (.int ex4), .unset] [(.int (5 : Int32))])) _
      refine XS.istore X130.here hx rfl (hb hby at_153) rfl (l' := #[.val (.int x0), .val (.int x1), .val (.int x2), .val (.int x3), .val (.int xf), .val (.ref b1), .val (.ref b2), .val (.int (5 : Int32)), .val (.int ex4), .val (.int (5 : Int32))]) rfl ?_
      show Steps p.tables e below (T130.setTop (mkF m 155 #[.val (.int x0), .val (.int x1), .val (.int x2), .val (.int x3), .val (.int xf), .val (.ref b1), .val (.ref b2), .val (.int (5 : Int32)), .val (.int ex4), .val (.int (5 : Int32))] [])) _
      refine XS.iload X130.here hx rfl (hb hby at_155) rfl ?_
      show Steps p.tables e below (T130.setTop (mkF m 157 #[.val (.int x0), .val (.int x1), .val (.int x2), .val (.int x3), .val (.int xf), .val (.ref b1), .val (.ref b2), .val (.int (5 : Int32)), .val (.int ex4), .val (.int (5 : Int32))] [(.int (5 : Int32))])) _
      refine XS.iload X130.here hx rfl (hb hby at_157) rfl ?_
      show Steps p.tables e below (T130.setTop (mkF m 159 #[.val (.int x0), .val (.int x1), .val (.int x2), .val (.int x3), .val (.int xf), .val (.ref b1), .val (.ref b2), .val (.int (5 : Int32)), .val (.int ex4), .val (.int (5 : Int32))] [(.int ex4), (.int (5 : Int32))])) _
      refine XS.icmpNo X130.here hx rfl (hb hby at_159) rfl (teq hc132).2 ?_
      show Steps p.tables e below (T130.setTop (mkF m 162 #[.val (.int x0), .val (.int x1), .val (.int x2), .val (.int x3), .val (.int xf), .val (.ref b1), .val (.ref b2), .val (.int (5 : Int32)), .val (.int ex4), .val (.int (5 : Int32))] [])) _
      refine XS.iconst X130.here hx rfl (hb hby at_162) ?_
      show Steps p.tables e below (T130.setTop (mkF m 163 #[.val (.int x0), .val (.int x1), .val (.int x2), .val (.int x3), .val (.int xf), .val (.ref b1), .val (.ref b2), .val (.int (5 : Int32)), .val (.int ex4), .val (.int (5 : Int32))] [(.int (1 : Int32))])) _
      refine XS.goto X130.here hx rfl (pc0 := 163) (pc' := 167) rfl (hb hby at_163) (by decide) (by decide) ?_
      show Steps p.tables e below (T130.setTop (mkF m 167 #[.val (.int x0), .val (.int x1), .val (.int x2), .val (.int x3), .val (.int xf), .val (.ref b1), .val (.ref b2), .val (.int (5 : Int32)), .val (.int ex4), .val (.int (5 : Int32))] [(.int (1 : Int32))])) _
      exact kt)
    obtain ⟨fs, hr, hrun, hended, hW, hsame⟩ := X130.leave (v := (some (.int (1 : Int32)))) (fun h => by rw [Bd.returns] at h; cases h)
    refine ⟨_, _, st133 _ ?_, hrun, hended, _, _, rfl, ?_, ⟨_, rfl⟩, hW, hsame.mono (by decide) (by decide)⟩
    · exact retN X130 hx (t := .boolean) Bd.returns (by simp) (hb hby at_167) hr
    · show Q_rm_law Z x0 x1 x2 x3 xf gz gf h0 n0 _ T130.heap _
      rw [eq130]
      exact ⟨rfl, N130⟩
set_option maxRecDepth 65536 in
set_option maxHeartbeats 40000000 in
theorem comes_1 {Post : Tables → Env → Array Value → State → Outcome → State → Prop} (hpost : ∀ tb e args s v u, (limb_1_1.after args s (.returned v) u = true ∧ limb_1_2.after args s (.returned v) u = true ∧ True) → FrameEnd s (.returned v) u (Jvm.fieldLocs frame_1_writes args s ++ Jvm.arrayLocs frame_1_arrays args s ++ Jvm.staticLocs frame_1_statics s) 16 128 → Post tb e args s (.returned v) u) :
    ArmFor flags0 classFile x code maxLocals ret World_1 tables_1 room_1 Calls_1 rest_1 Pre_1 Post := by
  intro l hfl _ _ p e ha hc hk s m args below hf hA hF happ hP
  obtain ⟨hcalls, hrest, hpre⟩ := hP
  obtain ⟨-, -, -, hnamed, -, -, -, hat⟩ := (Spec.applies_iff hf).mp happ
  obtain ⟨hg, hn⟩ := and_e (Cond.before_iff.mp (show (Jvm.Cond.and given_1 narrow_1).before args s = true from hpre))
  obtain ⟨gg1, gg2⟩ := and_e hg
  obtain ⟨gg3, gg4⟩ := and_e gg2
  obtain ⟨gg5, gg6⟩ := and_e gg4
  obtain ⟨gg7, gg8⟩ := and_e gg6
  obtain ⟨gg9, gg10⟩ := and_e gg8
  obtain ⟨w0, w1, w2, w3, w4, rfl⟩ : ∃ w0 w1 w2 w3 w4 : Value, args = #[w0, w1, w2, w3, w4] := by
    have hs : args.size = 5 := by simpa [Cond.value, given_1] using gg1
    obtain ⟨L⟩ := args
    match L, hs with
    | [w0, w1, w2, w3, w4], _ => exact ⟨w0, w1, w2, w3, w4, rfl⟩
  have hw := fun d (hd : d ∈ tables_1) => atoms_spec (ws := Jvm.Cond.code x code maxLocals ret :: tables_1) hat d (List.mem_cons_of_mem _ hd)
  have hfit : Fit s := fun {y c} hc i hi => by
    obtain ⟨ha, rfl⟩ := Array.getElem?_eq_some_iff.mp hc
    have q := List.all_eq_true.mp ((Array.all_eq_true_iff_forall_mem.mp hF) _ (Array.getElem_mem ha)) i (List.mem_range.mpr hi)
    simpa [Array.getElem?_eq_getElem hi] using q
  obtain ⟨hsets, hown0⟩ := atoms_of _ (rest_1_c_eq ▸ (show rest_1_c.before _ s = true from hrest))
  have hr0 := Cond.before_iff.mp hown0
  obtain ⟨i0, ei0⟩ := is_v gg3
  obtain rfl : w0 = (.int i0) := Option.some.inj ei0
  obtain ⟨i1, ei1⟩ := is_v gg5
  obtain rfl : w1 = (.int i1) := Option.some.inj ei1
  obtain ⟨i2, ei2⟩ := is_v gg7
  obtain rfl : w2 = (.int i2) := Option.some.inj ei2
  obtain ⟨i3, ei3⟩ := is_v gg9
  obtain rfl : w3 = (.int i3) := Option.some.inj ei3
  obtain ⟨i4, ei4⟩ := is_v gg10
  obtain rfl : w4 = (.int i4) := Option.some.inj ei4
  have n5 := not_v (Cond.before_iff.mp (hsets _ (List.mem_of_getElem? (i := 2) rfl)))
  obtain ⟨gz, e10⟩ := is_v (Cond.before_iff.mp (hsets _ (List.mem_of_getElem? (i := 1) rfl)))
  have S12 : Sta s s.heap "java/lang/String" "COMPACT_STRINGS" "Z" (.int gz) := Sta.start e10 (Or.inl (hsets _ (List.mem_of_getElem? (i := 0) rfl)))
  obtain ⟨v13, e14, r15⟩ := isR_v (Cond.before_iff.mp (hsets _ (List.mem_of_getElem? (i := 8) rfl)))
  have S16 : Sta s s.heap "jdk/internal/util/Preconditions" "SIOOBE_FORMATTER" "Ljava/util/function/BiFunction;" v13 := Sta.start e14 (Or.inl (hsets _ (List.mem_of_getElem? (i := 7) rfl)))
  have c17 : ¬ (gz = (0 : Int32)) := gotF (Cond.eq_ints e10 (Term.int_eval (0))) n5
  obtain ⟨n, o, h1, h2, h3, _, L, rfl, ⟨rfl, N⟩, hq⟩ := rm_law l s _ hw tables_1 i0 i1 i2 i3 i4 gz v13 s.heap s.heap.size (Nat.le_refl _) S12 c17 S16 r15 (Old.start s) p e ha hc hk s m _ below hf ((Spec.applies_iff_loose hf).mp happ).1 ⟨rfl, State.Warmed39.refl s, rfl⟩ trivial
  refine ⟨n, _, h1, h2, h3, hpost _ _ _ _ _ _ ⟨Cond.after_iff.mpr rfl, Cond.after_iff.mpr (eq_i res_at (Term.int_eval (1)) rfl), trivial⟩ ⟨hq.1, hq.2.1, (hq.2.2.sift fun y hy => Or.inr (N y hy)).mono (by decide) (by decide)⟩⟩
theorem main_1_1 : Claimed_1_1 := comes_1 fun _ _ _ _ _ _ h hF => ⟨h.1, hF⟩
theorem main_1_2 : Claimed_1_2 := comes_1 fun _ _ _ _ _ _ h hF => ⟨h.2.1, hF⟩
end Jvm.Pilot.@@N@@
namespace Jvm.Pilot.@@N@@
open Jvm Jvm.ClassFile Sem Op Lib Jvm.Free Jvm.Stand Jvm.Pilot.@@N@@.Jvm.D
/-! MADE BY PROGRAM (witnessworld.py) out of the Statement's table words and the real class files: 20 classes; the members and pool entries that the words name. The judged class is class 1, her method 3. -/
namespace start1
open Jvm.ClassFile
def u (s : String) : CpInfo := .utf8 (stringToUtf16 s)
/-- a pool by its gaps: so many unusable entries, then the entry; so many at the end -/
def gap : Nat → List CpInfo → List CpInfo
  | 0, r => r
  | n + 1, r => .unusable :: gap n r
def poolList (es : List (Nat × CpInfo)) (last : Nat) : List CpInfo := es.foldr (fun e r => gap e.1 (e.2 :: r)) (gap last [])
def pool (es : List (Nat × CpInfo)) (last : Nat) : Array CpInfo := ⟨poolList es last⟩
def fileOf (pool : Array CpInfo) (this : Nat) (attrs : Array Attribute := #[]) (ms : Array MethodInfo := #[]) (fl : Nat := 33) (sup : Nat := 0) (ifs : Array Nat := #[]) (fds : Array FieldInfo := #[]) : ClassFile where
  minorVersion := 0
  majorVersion := 65
  constantPool := pool
  accessFlags := fl
  thisClass := this
  superClass := sup
  interfaces := ifs
  fields := fds
  methods := ms
  attributes := attrs
def plain (name : String) (sup : Option ClassId) : Class where
  name := name
  kind := .ordinary
  loader := none
  accessFlags := 33
  super := sup
  interfaces := #[]
  cf := none
  fields := #[]
  methods := #[]
  instanceTypes := #[]
  staticTypes := #[]
  resolved := #[]
  callSites := []
  init := .initialized
  statics := none
  mirror := none

def pool0 : Array CpInfo := pool [(5, u "<init>"), (0, u "()V"), (1, .class_ 10), (1, u "java/lang/Object")] 113

def k0c0 : Code := { maxStack := 0, maxLocals := 1, code := object_method_1_code, exceptionTable := #[], attributes := #[] }
def k0m0 : Method := { name := "<init>", desc := "()V", sig := { parameters := [], returnType := none }, accessFlags := 1, code := some k0c0 }
/-- java/lang/Object -/
def k0 : Class := { plain "java/lang/Object" none with
  accessFlags := 33
  interfaces := #[]
  cf := some (fileOf pool0 8 #[] #[{ accessFlags := 1, nameIndex := 5, descriptorIndex := 6, attributes := #[] }] 33 0 #[] #[])
  fields := #[]
  methods := #[k0m0]
  instanceTypes := #[]
  staticTypes := #[]
  resolved := Array.replicate 124 none
  statics := none }

def pool1 : Array CpInfo := pool [(2, .class_ 4), (1, u "java/lang/Object"), (0, u "<init>"), (0, u "()V"), (0, .methodref 8 9), (0, .class_ 10), (0, .nameAndType 11 12), (0, u "com/example/datumbridge/datumbridge/cli/InputLinesFieldEndPinLaw"), (0, u "draw"), (0, u "(I)C"), (0, .class_ 14), (0, u "java/lang/String"), (0, .methodref 13 16), (0, .nameAndType 5 17), (0, u "([C)V"), (0, .integer 2147483647), (0, .methodref 8 20), (0, .nameAndType 21 22), (0, u "blank"), (0, u "(C)Z"), (0, .methodref 24 25), (0, .class_ 26), (0, .nameAndType 27 28), (0, u "com/example/datumbridge/datumbridge/cli/InputLines"), (0, u "fieldEnd"), (0, u "(Ljava/lang/String;I)I"), (3, u "law"), (0, u "(IIIII)Z")] 4

def k1m0 : Method := { name := "<init>", desc := "()V", sig := { parameters := [], returnType := none }, accessFlags := 2, code := none }
def k1c1 : Code := { maxStack := 2, maxLocals := 2, code := method_2_code, exceptionTable := #[], attributes := #[] }
def k1m1 : Method := { name := "draw", desc := "(I)C", sig := { parameters := [.int], returnType := some .char }, accessFlags := 10, code := some k1c1 }
def k1c2 : Code := { maxStack := 2, maxLocals := 1, code := method_3_code, exceptionTable := #[], attributes := #[] }
def k1m2 : Method := { name := "blank", desc := "(C)Z", sig := { parameters := [.char], returnType := some .boolean }, accessFlags := 10, code := some k1c2 }
def k1c3 : Code := { maxStack := 3, maxLocals := 10, code := code, exceptionTable := #[], attributes := #[] }
def k1m3 : Method := { name := "law", desc := "(IIIII)Z", sig := { parameters := [.int, .int, .int, .int, .int], returnType := some .boolean }, accessFlags := 9, code := some k1c3 }
/-- com/example/datumbridge/datumbridge/cli/InputLinesFieldEndPinLaw -/
def k1 : Class := { plain "com/example/datumbridge/datumbridge/cli/InputLinesFieldEndPinLaw" (some 0) with
  accessFlags := 49
  interfaces := #[]
  cf := some (fileOf pool1 8 #[] #[{ accessFlags := 2, nameIndex := 5, descriptorIndex := 6, attributes := #[] }, { accessFlags := 10, nameIndex := 11, descriptorIndex := 12, attributes := #[] }, { accessFlags := 10, nameIndex := 21, descriptorIndex := 22, attributes := #[] }, { accessFlags := 9, nameIndex := 32, descriptorIndex := 33, attributes := #[] }] 49 2 #[] #[])
  fields := #[]
  methods := #[k1m0, k1m1, k1m2, k1m3]
  instanceTypes := #[]
  staticTypes := #[]
  resolved := Array.replicate 38 none
  statics := none }

def pool2 : Array CpInfo := pool [(1, .class_ 2), (0, u "java/io/Serializable"), (0, .class_ 4), (0, u "java/lang/Object")] 2

/-- java/io/Serializable -/
def k2 : Class := { plain "java/io/Serializable" (some 0) with
  accessFlags := 1537
  interfaces := #[]
  cf := some (fileOf pool2 1 #[] #[] 1537 3 #[] #[])
  fields := #[]
  methods := #[]
  instanceTypes := #[]
  staticTypes := #[]
  resolved := Array.replicate 7 none
  statics := none }

def pool3 : Array CpInfo := pool [(1, .class_ 2), (0, u "java/lang/Comparable"), (0, .class_ 4), (0, u "java/lang/Object")] 7

/-- java/lang/Comparable -/
def k3 : Class := { plain "java/lang/Comparable" (some 0) with
  accessFlags := 1537
  interfaces := #[]
  cf := some (fileOf pool3 1 #[] #[] 1537 3 #[] #[])
  fields := #[]
  methods := #[]
  instanceTypes := #[]
  staticTypes := #[]
  resolved := Array.replicate 12 none
  statics := none }

def pool4 : Array CpInfo := pool [(2, .class_ 4), (1, u "java/lang/CharSequence"), (42, .class_ 48), (0, u "java/lang/CharSequence$1CodePointIterator"), (10, .class_ 60), (0, u "java/lang/CharSequence$1CharIterator"), (5, .class_ 67), (0, u "java/lang/Object")] 63

/-- java/lang/CharSequence -/
def k4 : Class := { plain "java/lang/CharSequence" (some 0) with
  accessFlags := 1537
  interfaces := #[]
  cf := some (fileOf pool4 2 #[.nestMembers #[47, 59]] #[] 1537 66 #[] #[])
  fields := #[]
  methods := #[]
  instanceTypes := #[]
  staticTypes := #[]
  resolved := Array.replicate 131 none
  statics := none }

def pool5 : Array CpInfo := pool [(1, .class_ 2), (0, u "java/lang/constant/Constable"), (0, .class_ 4), (0, u "java/lang/Object")] 6

/-- java/lang/constant/Constable -/
def k5 : Class := { plain "java/lang/constant/Constable" (some 0) with
  accessFlags := 1537
  interfaces := #[]
  cf := some (fileOf pool5 1 #[] #[] 1537 3 #[] #[])
  fields := #[]
  methods := #[]
  instanceTypes := #[]
  staticTypes := #[]
  resolved := Array.replicate 11 none
  statics := none }

def pool6 : Array CpInfo := pool [(1, .class_ 2), (0, u "java/lang/constant/ConstantDesc"), (0, .class_ 4), (0, u "java/lang/Object")] 32

/-- java/lang/constant/ConstantDesc -/
def k6 : Class := { plain "java/lang/constant/ConstantDesc" (some 0) with
  accessFlags := 1537
  interfaces := #[]
  cf := some (fileOf pool6 1 #[] #[] 1537 3 #[] #[])
  fields := #[]
  methods := #[]
  instanceTypes := #[]
  staticTypes := #[]
  resolved := Array.replicate 37 none
  statics := none }

def pool7 : Array CpInfo := pool [(1, .methodref 2 3), (0, .class_ 4), (0, .nameAndType 5 6), (0, u "java/lang/Object"), (0, u "<init>"), (0, u "()V"), (2, .fieldref 10 11), (0, .class_ 12), (0, .nameAndType 13 14), (0, u "java/lang/String"), (0, u "value"), (0, u "[B"), (0, .fieldref 10 16), (0, .nameAndType 17 18), (0, u "coder"), (0, u "B"), (2, u "hash"), (0, u "I"), (2, u "hashIsZero"), (0, u "Z"), (0, .methodref 10 28), (0, .nameAndType 5 29), (0, u "([CIILjava/lang/Void;)V"), (8, .fieldref 10 39), (0, .nameAndType 40 26), (0, u "COMPACT_STRINGS"), (1, .class_ 44), (1, u "java/lang/StringUTF16"), (0, u "compress"), (1, .methodref 42 48), (0, .nameAndType 49 50), (0, u "coderFromArrayLen"), (0, u "([BI)B"), (56, .class_ 109), (1, u "java/lang/StringLatin1"), (32, u "()Z"), (34, .methodref 42 178), (0, .nameAndType 45 179), (0, u "([CII)[B"), (154, u "()I"), (0, .methodref 10 336), (0, .nameAndType 17 337), (0, u "()B"), (25, u "([BI)C"), (27, u "(II)V"), (35, u "(I)C"), (64, .methodref 10 493), (0, .nameAndType 494 142), (0, u "isLatin1"), (0, .methodref 107 496), (0, .nameAndType 497 363), (0, u "charAt"), (3, u "checkIndex"), (5, u "length"), (67, .class_ 576), (0, u "java/lang/CharSequence"), (22, u "CASE_INSENSITIVE_ORDER"), (0, u "Ljava/util/Comparator;"), (409, u "([C)V"), (42, .fieldref 1054 1055), (0, .class_ 1056), (0, .nameAndType 1057 1058), (0, u "jdk/internal/util/Preconditions"), (0, u "SIOOBE_FORMATTER"), (0, u "Ljava/util/function/BiFunction;"), (0, .methodref 1054 1060), (0, .nameAndType 501 1061), (0, u "(IILjava/util/function/BiFunction;)I"), (39, u "serialPersistentFields"), (0, u "[Ljava/io/ObjectStreamField;"), (0, .class_ 1104), (0, u "java/lang/String$CaseInsensitiveComparator"), (1, .class_ 1107), (0, u "java/io/Serializable"), (0, .class_ 1109), (0, u "java/lang/Comparable"), (0, .class_ 1111), (0, u "java/lang/constant/Constable"), (0, .class_ 1113), (0, u "java/lang/constant/ConstantDesc"), (2, u "serialVersionUID"), (0, u "J"), (3, u "REPL"), (0, u "C"), (2, u "LATIN1"), (1, u "UTF16")] 323

def k7m0 : Method := { name := "<init>", desc := "()V", sig := { parameters := [], returnType := none }, accessFlags := 1, code := none }
def k7c1 : Code := { maxStack := 5, maxLocals := 2, code := jdk_42_method_3_code, exceptionTable := #[], attributes := #[] }
def k7m1 : Method := { name := "<init>", desc := "([C)V", sig := { parameters := [(.array .char)], returnType := none }, accessFlags := 1, code := some k7c1 }
def k7c2 : Code := { maxStack := 2, maxLocals := 1, code := jdk_42_method_54_code, exceptionTable := #[], attributes := #[] }
def k7m2 : Method := { name := "length", desc := "()I", sig := { parameters := [], returnType := some .int }, accessFlags := 1, code := some k7c2 }
def k7c3 : Code := { maxStack := 2, maxLocals := 2, code := jdk_42_method_56_code, exceptionTable := #[], attributes := #[] }
def k7m3 : Method := { name := "charAt", desc := "(I)C", sig := { parameters := [.int], returnType := some .char }, accessFlags := 1, code := some k7c3 }
def k7c4 : Code := { maxStack := 4, maxLocals := 6, code := jdk_42_method_149_code, exceptionTable := #[], attributes := #[] }
def k7m4 : Method := { name := "<init>", desc := "([CIILjava/lang/Void;)V", sig := { parameters := [(.array .char), .int, .int, (.object "java/lang/Void")], returnType := none }, accessFlags := 2, code := some k7c4 }
def k7c5 : Code := { maxStack := 1, maxLocals := 1, code := jdk_42_method_152_code, exceptionTable := #[], attributes := #[] }
def k7m5 : Method := { name := "coder", desc := "()B", sig := { parameters := [], returnType := some .byte }, accessFlags := 0, code := some k7c5 }
def k7c6 : Code := { maxStack := 1, maxLocals := 1, code := jdk_42_method_154_code, exceptionTable := #[], attributes := #[] }
def k7m6 : Method := { name := "isLatin1", desc := "()Z", sig := { parameters := [], returnType := some .boolean }, accessFlags := 0, code := some k7c6 }
def k7c7 : Code := { maxStack := 3, maxLocals := 2, code := jdk_42_method_155_code, exceptionTable := #[], attributes := #[] }
def k7m7 : Method := { name := "checkIndex", desc := "(II)V", sig := { parameters := [.int, .int], returnType := none }, accessFlags := 8, code := some k7c7 }
/-- java/lang/String -/
def k7 : Class := { plain "java/lang/String" (some 0) with
  accessFlags := 49
  interfaces := #[2, 3, 4, 5, 6]
  cf := some (fileOf pool7 10 #[.nestMembers #[1103]] #[{ accessFlags := 1, nameIndex := 5, descriptorIndex := 6, attributes := #[] }, { accessFlags := 1, nameIndex := 5, descriptorIndex := 1010, attributes := #[] }, { accessFlags := 1, nameIndex := 507, descriptorIndex := 334, attributes := #[] }, { accessFlags := 1, nameIndex := 497, descriptorIndex := 427, attributes := #[] }, { accessFlags := 2, nameIndex := 5, descriptorIndex := 29, attributes := #[] }, { accessFlags := 0, nameIndex := 17, descriptorIndex := 337, attributes := #[] }, { accessFlags := 0, nameIndex := 494, descriptorIndex := 142, attributes := #[] }, { accessFlags := 8, nameIndex := 501, descriptorIndex := 391, attributes := #[] }] 49 2 #[1106, 1108, 575, 1110, 1112] #[{ accessFlags := 18, nameIndex := 13, descriptorIndex := 14, attributes := #[] }, { accessFlags := 18, nameIndex := 17, descriptorIndex := 18, attributes := #[] }, { accessFlags := 2, nameIndex := 21, descriptorIndex := 22, attributes := #[] }, { accessFlags := 2, nameIndex := 25, descriptorIndex := 26, attributes := #[] }, { accessFlags := 26, nameIndex := 1116, descriptorIndex := 1117, attributes := #[] }, { accessFlags := 24, nameIndex := 40, descriptorIndex := 26, attributes := #[] }, { accessFlags := 26, nameIndex := 1101, descriptorIndex := 1102, attributes := #[] }, { accessFlags := 26, nameIndex := 1121, descriptorIndex := 1122, attributes := #[] }, { accessFlags := 25, nameIndex := 599, descriptorIndex := 600, attributes := #[] }, { accessFlags := 24, nameIndex := 1125, descriptorIndex := 18, attributes := #[] }, { accessFlags := 24, nameIndex := 1127, descriptorIndex := 18, attributes := #[] }])
  fields := #[{ name := "value", type := (.array .byte), accessFlags := 18, slot := 0, constantValue := 0 }, { name := "coder", type := .byte, accessFlags := 18, slot := 1, constantValue := 0 }, { name := "hash", type := .int, accessFlags := 2, slot := 2, constantValue := 0 }, { name := "hashIsZero", type := .boolean, accessFlags := 2, slot := 3, constantValue := 0 }, { name := "serialVersionUID", type := .long, accessFlags := 26, slot := 0, constantValue := 0 }, { name := "COMPACT_STRINGS", type := .boolean, accessFlags := 24, slot := 1, constantValue := 0 }, { name := "serialPersistentFields", type := (.array (.object "java/io/ObjectStreamField")), accessFlags := 26, slot := 2, constantValue := 0 }, { name := "REPL", type := .char, accessFlags := 26, slot := 3, constantValue := 0 }, { name := "CASE_INSENSITIVE_ORDER", type := (.object "java/util/Comparator"), accessFlags := 25, slot := 4, constantValue := 0 }, { name := "LATIN1", type := .byte, accessFlags := 24, slot := 5, constantValue := 0 }, { name := "UTF16", type := .byte, accessFlags := 24, slot := 6, constantValue := 0 }]
  methods := #[k7m0, k7m1, k7m2, k7m3, k7m4, k7m5, k7m6, k7m7]
  instanceTypes := #[(.array .byte), .byte, .int, .boolean]
  staticTypes := #[.long, .boolean, (.array (.object "java/io/ObjectStreamField")), .char, (.object "java/util/Comparator"), .byte, .byte]
  resolved := Array.replicate 1451 none
  statics := some 0 }

def pool8 : Array CpInfo := pool [(6, .class_ 8), (1, u "java/lang/Object"), (0, u "<init>"), (0, u "()V"), (1, .class_ 14), (1, u "java/lang/StringUTF16"), (31, u "$assertionsDisabled"), (0, u "Z"), (13, u "HI_BYTE_SHIFT"), (0, u "I"), (2, u "LO_BYTE_SHIFT"), (49, .methodref 12 116), (0, .nameAndType 117 118), (0, u "compress"), (0, u "([CI[BII)I"), (3, u "([CII)[B"), (138, u "coderFromArrayLen"), (0, u "([BI)B"), (106, .class_ 371), (1, u "java/lang/StringUTF16$LinesSpliterator"), (58, u "MAX_LENGTH"), (196, .class_ 628), (0, u "java/lang/StringUTF16$CodePointsSpliterator"), (0, .class_ 630), (0, u "java/lang/StringUTF16$CharsSpliterator")] 4

def k8m0 : Method := { name := "<init>", desc := "()V", sig := { parameters := [], returnType := none }, accessFlags := 0, code := none }
def k8c1 : Code := { maxStack := 2, maxLocals := 2, code := jdk_52_method_15_code, exceptionTable := #[], attributes := #[] }
def k8m1 : Method := { name := "coderFromArrayLen", desc := "([BI)B", sig := { parameters := [(.array .byte), .int], returnType := some .byte }, accessFlags := 8, code := some k8c1 }
def k8c2 : Code := { maxStack := 5, maxLocals := 6, code := jdk_52_method_16_code, exceptionTable := #[], attributes := #[] }
def k8m2 : Method := { name := "compress", desc := "([CII)[B", sig := { parameters := [(.array .char), .int, .int], returnType := some (.array .byte) }, accessFlags := 9, code := some k8c2 }
def k8c3 : Code := { maxStack := 3, maxLocals := 7, code := jdk_52_method_21_code, exceptionTable := #[], attributes := #[] }
def k8m3 : Method := { name := "compress", desc := "([CI[BII)I", sig := { parameters := [(.array .char), .int, (.array .byte), .int, .int], returnType := some .int }, accessFlags := 9, code := some k8c3 }
/-- java/lang/StringUTF16 -/
def k8 : Class := { plain "java/lang/StringUTF16" (some 0) with
  accessFlags := 48
  interfaces := #[]
  cf := some (fileOf pool8 12 #[.nestMembers #[627, 629, 369]] #[{ accessFlags := 0, nameIndex := 9, descriptorIndex := 10, attributes := #[] }, { accessFlags := 8, nameIndex := 261, descriptorIndex := 262, attributes := #[] }, { accessFlags := 9, nameIndex := 117, descriptorIndex := 122, attributes := #[] }, { accessFlags := 9, nameIndex := 117, descriptorIndex := 118, attributes := #[] }] 48 6 #[] #[{ accessFlags := 26, nameIndex := 61, descriptorIndex := 62, attributes := #[] }, { accessFlags := 26, nameIndex := 65, descriptorIndex := 62, attributes := #[] }, { accessFlags := 24, nameIndex := 430, descriptorIndex := 62, attributes := #[] }, { accessFlags := 4120, nameIndex := 46, descriptorIndex := 47, attributes := #[] }])
  fields := #[{ name := "HI_BYTE_SHIFT", type := .int, accessFlags := 26, slot := 0, constantValue := 0 }, { name := "LO_BYTE_SHIFT", type := .int, accessFlags := 26, slot := 1, constantValue := 0 }, { name := "MAX_LENGTH", type := .int, accessFlags := 24, slot := 2, constantValue := 0 }, { name := "$assertionsDisabled", type := .boolean, accessFlags := 4120, slot := 3, constantValue := 0 }]
  methods := #[k8m0, k8m1, k8m2, k8m3]
  instanceTypes := #[]
  staticTypes := #[.int, .int, .int, .boolean]
  resolved := Array.replicate 635 none
  statics := none }

def pool9 : Array CpInfo := pool [(1, .class_ 2), (0, u "com/example/datumbridge/datumbridge/cli/InputLines"), (1, .class_ 6), (1, u "java/lang/Object"), (0, u "<init>"), (0, u "()V"), (6, .class_ 16), (0, u "java/lang/String"), (45, .class_ 63), (0, u "com/example/datumbridge/datumbridge/cli/InputLines$LineReader"), (14, .class_ 80), (1, u "com/example/datumbridge/datumbridge/cli/InputLines$LineHandler"), (8, .methodref 15 90), (0, .nameAndType 91 92), (0, u "length"), (0, u "()I"), (12, .methodref 15 106), (0, .nameAndType 107 108), (0, u "charAt"), (0, u "(I)C"), (0, .methodref 1 110), (0, .nameAndType 111 112), (0, u "isBlank"), (0, u "(C)Z"), (0, u "BYTE_ORDER_MARK"), (0, u "Ljava/lang/String;"), (1, u "BUFFER_SIZE"), (0, u "I"), (1, u "MAX_LINE"), (1, u "TOO_LONG"), (10, u "(Ljava/lang/String;I)I"), (0, u "fieldEnd")] 22

def k9m0 : Method := { name := "<init>", desc := "()V", sig := { parameters := [], returnType := none }, accessFlags := 2, code := none }
def k9c1 : Code := { maxStack := 2, maxLocals := 3, code := prog_9_method_5_code, exceptionTable := #[], attributes := #[] }
def k9m1 : Method := { name := "fieldEnd", desc := "(Ljava/lang/String;I)I", sig := { parameters := [(.object "java/lang/String"), .int], returnType := some .int }, accessFlags := 8, code := some k9c1 }
def k9c2 : Code := { maxStack := 2, maxLocals := 1, code := prog_9_method_6_code, exceptionTable := #[], attributes := #[] }
def k9m2 : Method := { name := "isBlank", desc := "(C)Z", sig := { parameters := [.char], returnType := some .boolean }, accessFlags := 8, code := some k9c2 }
/-- com/example/datumbridge/datumbridge/cli/InputLines -/
def k9 : Class := { plain "com/example/datumbridge/datumbridge/cli/InputLines" (some 0) with
  accessFlags := 48
  interfaces := #[]
  cf := some (fileOf pool9 1 #[.nestMembers #[62, 78]] #[{ accessFlags := 2, nameIndex := 7, descriptorIndex := 8, attributes := #[] }, { accessFlags := 8, nameIndex := 133, descriptorIndex := 132, attributes := #[] }, { accessFlags := 8, nameIndex := 111, descriptorIndex := 112, attributes := #[] }] 48 4 #[] #[{ accessFlags := 26, nameIndex := 113, descriptorIndex := 114, attributes := #[] }, { accessFlags := 26, nameIndex := 116, descriptorIndex := 117, attributes := #[] }, { accessFlags := 24, nameIndex := 119, descriptorIndex := 117, attributes := #[] }, { accessFlags := 26, nameIndex := 121, descriptorIndex := 114, attributes := #[] }])
  fields := #[{ name := "BYTE_ORDER_MARK", type := (.object "java/lang/String"), accessFlags := 26, slot := 0, constantValue := 0 }, { name := "BUFFER_SIZE", type := .int, accessFlags := 26, slot := 1, constantValue := 0 }, { name := "MAX_LINE", type := .int, accessFlags := 24, slot := 2, constantValue := 0 }, { name := "TOO_LONG", type := (.object "java/lang/String"), accessFlags := 26, slot := 3, constantValue := 0 }]
  methods := #[k9m0, k9m1, k9m2]
  instanceTypes := #[]
  staticTypes := #[(.object "java/lang/String"), .int, .int, (.object "java/lang/String")]
  resolved := Array.replicate 156 none
  statics := none }

def pool10 : Array CpInfo := pool [(1, .class_ 2), (0, u "java/lang/String"), (1, .class_ 6), (1, u "java/lang/Object"), (0, u "<init>"), (0, u "()V"), (0, .methodref 1 10), (0, .nameAndType 11 12), (0, u "checkIndex"), (0, u "(II)V"), (1, .class_ 16), (1, u "java/lang/StringLatin1"), (36, u "([BI)C"), (67, u "$assertionsDisabled"), (0, u "Z"), (98, .class_ 223), (1, u "java/lang/StringLatin1$LinesSpliterator"), (28, u "charAt"), (137, .class_ 391), (0, u "java/lang/StringLatin1$CharsSpliterator")] 3

def k10m0 : Method := { name := "<init>", desc := "()V", sig := { parameters := [], returnType := none }, accessFlags := 0, code := none }
def k10c1 : Code := { maxStack := 2, maxLocals := 2, code := jdk_43_method_2_code, exceptionTable := #[], attributes := #[] }
def k10m1 : Method := { name := "charAt", desc := "([BI)C", sig := { parameters := [(.array .byte), .int], returnType := some .char }, accessFlags := 9, code := some k10c1 }
/-- java/lang/StringLatin1 -/
def k10 : Class := { plain "java/lang/StringLatin1" (some 0) with
  accessFlags := 48
  interfaces := #[]
  cf := some (fileOf pool10 14 #[.nestMembers #[390, 221]] #[{ accessFlags := 0, nameIndex := 7, descriptorIndex := 8, attributes := #[] }, { accessFlags := 9, nameIndex := 252, descriptorIndex := 53, attributes := #[] }] 48 4 #[] #[{ accessFlags := 4120, nameIndex := 121, descriptorIndex := 122, attributes := #[] }])
  fields := #[{ name := "$assertionsDisabled", type := .boolean, accessFlags := 4120, slot := 0, constantValue := 0 }]
  methods := #[k10m0, k10m1]
  instanceTypes := #[]
  staticTypes := #[.boolean]
  resolved := Array.replicate 395 none
  statics := none }

def pool11 : Array CpInfo := pool [(2, .class_ 4), (1, u "java/lang/Object"), (0, u "<init>"), (0, u "()V"), (17, .class_ 26), (1, u "jdk/internal/util/Preconditions"), (6, u "checkIndex"), (21, .class_ 56), (0, u "jdk/internal/util/Preconditions$4"), (57, .class_ 115), (0, u "jdk/internal/util/Preconditions$1"), (7, u "SIOOBE_FORMATTER"), (0, u "Ljava/util/function/BiFunction;"), (0, .class_ 126), (0, u "jdk/internal/util/Preconditions$2"), (3, u "AIOOBE_FORMATTER"), (0, .class_ 132), (0, u "jdk/internal/util/Preconditions$3"), (3, u "IOOBE_FORMATTER"), (41, u "(IILjava/util/function/BiFunction;)I")] 15

def k11m0 : Method := { name := "<init>", desc := "()V", sig := { parameters := [], returnType := none }, accessFlags := 1, code := none }
def k11c1 : Code := { maxStack := 3, maxLocals := 3, code := jdk_41_method_11_code, exceptionTable := #[], attributes := #[] }
def k11m1 : Method := { name := "checkIndex", desc := "(IILjava/util/function/BiFunction;)I", sig := { parameters := [.int, .int, (.object "java/util/function/BiFunction")], returnType := some .int }, accessFlags := 9, code := some k11c1 }
/-- jdk/internal/util/Preconditions -/
def k11 : Class := { plain "jdk/internal/util/Preconditions" (some 0) with
  accessFlags := 33
  interfaces := #[]
  cf := some (fileOf pool11 24 #[.nestMembers #[55, 131, 125, 114]] #[{ accessFlags := 1, nameIndex := 5, descriptorIndex := 6, attributes := #[] }, { accessFlags := 9, nameIndex := 33, descriptorIndex := 178, attributes := #[] }] 33 2 #[] #[{ accessFlags := 25, nameIndex := 123, descriptorIndex := 124, attributes := #[] }, { accessFlags := 25, nameIndex := 130, descriptorIndex := 124, attributes := #[] }, { accessFlags := 25, nameIndex := 136, descriptorIndex := 124, attributes := #[] }])
  fields := #[{ name := "SIOOBE_FORMATTER", type := (.object "java/util/function/BiFunction"), accessFlags := 25, slot := 0, constantValue := 0 }, { name := "AIOOBE_FORMATTER", type := (.object "java/util/function/BiFunction"), accessFlags := 25, slot := 1, constantValue := 0 }, { name := "IOOBE_FORMATTER", type := (.object "java/util/function/BiFunction"), accessFlags := 25, slot := 2, constantValue := 0 }]
  methods := #[k11m0, k11m1]
  instanceTypes := #[]
  staticTypes := #[(.object "java/util/function/BiFunction"), (.object "java/util/function/BiFunction"), (.object "java/util/function/BiFunction")]
  resolved := Array.replicate 194 none
  statics := some 1 }

def pool12 : Array CpInfo := pool [(9, u "<init>"), (6, .class_ 18), (1, u "java/lang/Object"), (0, u "()V"), (1, .class_ 23), (1, u "jdk/internal/util/ArraysSupport"), (0, u "LOG2_ARRAY_LONG_INDEX_SCALE"), (0, u "I"), (2, u "U"), (0, u "Ljdk/internal/misc/Unsafe;"), (8, u "BIG_ENDIAN"), (0, u "Z"), (8, u "LOG2_BYTE_BIT_SIZE"), (4, u "LOG2_ARRAY_INT_INDEX_SCALE"), (54, u "JLA"), (0, u "Ljdk/internal/access/JavaLangAccess;"), (11, u "LOG2_ARRAY_BOOLEAN_INDEX_SCALE"), (9, u "LOG2_ARRAY_BYTE_INDEX_SCALE"), (5, u "LOG2_ARRAY_CHAR_INDEX_SCALE"), (5, u "LOG2_ARRAY_SHORT_INDEX_SCALE"), (18, u "LOG2_ARRAY_FLOAT_INDEX_SCALE"), (24, u "LOG2_ARRAY_DOUBLE_INDEX_SCALE"), (89, u "T_BOOLEAN"), (2, u "T_CHAR"), (1, u "T_FLOAT"), (1, u "T_DOUBLE"), (1, u "T_BYTE"), (1, u "T_SHORT"), (1, u "T_INT"), (1, u "T_LONG"), (1, u "SOFT_MAX_ARRAY_LENGTH")] 83

def k12m0 : Method := { name := "<init>", desc := "()V", sig := { parameters := [], returnType := none }, accessFlags := 2, code := none }
/-- jdk/internal/util/ArraysSupport -/
def k12 : Class := { plain "jdk/internal/util/ArraysSupport" (some 0) with
  accessFlags := 33
  interfaces := #[]
  cf := some (fileOf pool12 21 #[] #[{ accessFlags := 2, nameIndex := 9, descriptorIndex := 19, attributes := #[] }] 33 16 #[] #[{ accessFlags := 24, nameIndex := 28, descriptorIndex := 29, attributes := #[] }, { accessFlags := 26, nameIndex := 38, descriptorIndex := 39, attributes := #[] }, { accessFlags := 25, nameIndex := 121, descriptorIndex := 25, attributes := #[] }, { accessFlags := 25, nameIndex := 131, descriptorIndex := 25, attributes := #[] }, { accessFlags := 25, nameIndex := 137, descriptorIndex := 25, attributes := #[] }, { accessFlags := 25, nameIndex := 143, descriptorIndex := 25, attributes := #[] }, { accessFlags := 25, nameIndex := 53, descriptorIndex := 25, attributes := #[] }, { accessFlags := 25, nameIndex := 24, descriptorIndex := 25, attributes := #[] }, { accessFlags := 25, nameIndex := 162, descriptorIndex := 25, attributes := #[] }, { accessFlags := 25, nameIndex := 187, descriptorIndex := 25, attributes := #[] }, { accessFlags := 26, nameIndex := 48, descriptorIndex := 25, attributes := #[] }, { accessFlags := 25, nameIndex := 277, descriptorIndex := 25, attributes := #[] }, { accessFlags := 25, nameIndex := 280, descriptorIndex := 25, attributes := #[] }, { accessFlags := 25, nameIndex := 282, descriptorIndex := 25, attributes := #[] }, { accessFlags := 25, nameIndex := 284, descriptorIndex := 25, attributes := #[] }, { accessFlags := 25, nameIndex := 286, descriptorIndex := 25, attributes := #[] }, { accessFlags := 25, nameIndex := 288, descriptorIndex := 25, attributes := #[] }, { accessFlags := 25, nameIndex := 290, descriptorIndex := 25, attributes := #[] }, { accessFlags := 25, nameIndex := 292, descriptorIndex := 25, attributes := #[] }, { accessFlags := 26, nameIndex := 108, descriptorIndex := 109, attributes := #[] }, { accessFlags := 25, nameIndex := 294, descriptorIndex := 25, attributes := #[] }])
  fields := #[{ name := "U", type := (.object "jdk/internal/misc/Unsafe"), accessFlags := 24, slot := 0, constantValue := 0 }, { name := "BIG_ENDIAN", type := .boolean, accessFlags := 26, slot := 1, constantValue := 0 }, { name := "LOG2_ARRAY_BOOLEAN_INDEX_SCALE", type := .int, accessFlags := 25, slot := 2, constantValue := 0 }, { name := "LOG2_ARRAY_BYTE_INDEX_SCALE", type := .int, accessFlags := 25, slot := 3, constantValue := 0 }, { name := "LOG2_ARRAY_CHAR_INDEX_SCALE", type := .int, accessFlags := 25, slot := 4, constantValue := 0 }, { name := "LOG2_ARRAY_SHORT_INDEX_SCALE", type := .int, accessFlags := 25, slot := 5, constantValue := 0 }, { name := "LOG2_ARRAY_INT_INDEX_SCALE", type := .int, accessFlags := 25, slot := 6, constantValue := 0 }, { name := "LOG2_ARRAY_LONG_INDEX_SCALE", type := .int, accessFlags := 25, slot := 7, constantValue := 0 }, { name := "LOG2_ARRAY_FLOAT_INDEX_SCALE", type := .int, accessFlags := 25, slot := 8, constantValue := 0 }, { name := "LOG2_ARRAY_DOUBLE_INDEX_SCALE", type := .int, accessFlags := 25, slot := 9, constantValue := 0 }, { name := "LOG2_BYTE_BIT_SIZE", type := .int, accessFlags := 26, slot := 10, constantValue := 0 }, { name := "T_BOOLEAN", type := .int, accessFlags := 25, slot := 11, constantValue := 0 }, { name := "T_CHAR", type := .int, accessFlags := 25, slot := 12, constantValue := 0 }, { name := "T_FLOAT", type := .int, accessFlags := 25, slot := 13, constantValue := 0 }, { name := "T_DOUBLE", type := .int, accessFlags := 25, slot := 14, constantValue := 0 }, { name := "T_BYTE", type := .int, accessFlags := 25, slot := 15, constantValue := 0 }, { name := "T_SHORT", type := .int, accessFlags := 25, slot := 16, constantValue := 0 }, { name := "T_INT", type := .int, accessFlags := 25, slot := 17, constantValue := 0 }, { name := "T_LONG", type := .int, accessFlags := 25, slot := 18, constantValue := 0 }, { name := "JLA", type := (.object "jdk/internal/access/JavaLangAccess"), accessFlags := 26, slot := 19, constantValue := 0 }, { name := "SOFT_MAX_ARRAY_LENGTH", type := .int, accessFlags := 25, slot := 20, constantValue := 0 }]
  methods := #[k12m0]
  instanceTypes := #[]
  staticTypes := #[(.object "jdk/internal/misc/Unsafe"), .boolean, .int, .int, .int, .int, .int, .int, .int, .int, .int, .int, .int, .int, .int, .int, .int, .int, .int, (.object "jdk/internal/access/JavaLangAccess"), .int]
  resolved := Array.replicate 378 none
  statics := none }

def pool13 : Array CpInfo := pool [(1, u "java/lang/Cloneable"), (0, .class_ 1), (0, u "java/lang/Object"), (0, .class_ 3)] 3

/-- java/lang/Cloneable -/
def k13 : Class := { plain "java/lang/Cloneable" (some 0) with
  accessFlags := 1537
  interfaces := #[]
  cf := some (fileOf pool13 2 #[] #[] 1537 4 #[] #[])
  fields := #[]
  methods := #[]
  instanceTypes := #[]
  staticTypes := #[]
  resolved := Array.replicate 8 none
  statics := none }

/-- the primitive byte -/
def k14 : Class := { plain "byte" none with kind := .primitive 'B', accessFlags := 0x411 }
/-- [B -/
def k15 : Class := { plain "[B" (some 0) with kind := .array 14 .byte, interfaces := #[13, 2], accessFlags := 1041 }

/-- the primitive char -/
def k16 : Class := { plain "char" none with kind := .primitive 'C', accessFlags := 0x411 }
/-- [C -/
def k17 : Class := { plain "[C" (some 0) with kind := .array 16 .char, interfaces := #[13, 2], accessFlags := 1041 }

/-- the primitive int -/
def k18 : Class := { plain "int" none with kind := .primitive 'I', accessFlags := 0x411 }
/-- [I -/
def k19 : Class := { plain "[I" (some 0) with kind := .array 18 .int, interfaces := #[13, 2], accessFlags := 1041 }

def heap : Heap := #[{ cls := 7, slots := #[.long 0, .int 1, .null, .int 0, .null, .int 0, .int 0], vm := .statics 7 },
  { cls := 11, slots := #[.null, .null, .null], vm := .statics 11 }]
def classes : Array Class := #[k0, k1, k2, k3, k4, k5, k6, k7, k8, k9, k10, k11, k12, k13, k14, k15, k16, k17, k18, k19]
def interned : List (Array UInt16 × Addr) := []
def slotsUsed : Nat := 10
def theMethod : MethodId := ⟨1, 3⟩
def args0 : Array Value := #[.int 5, .int 5, .int 5, .int 5, .int 5]
def aboutOver (below : List Frame) : State where
  vm := { classes := classes, interned := interned.toArray }
  heap := heap
  slotsUsed := slotsUsed
  threads := #[{ frames := .invoking theMethod args0 :: below }]
def below0 : List Frame := [.native { method := ⟨0, 0⟩, args := #[] }]
def about1 : State := aboutOver below0
def p0 : Program := .bare "" "" ""
def e0 : Env := launch0.env 0 0 0
theorem w_frames : about1.frames = Frame.invoking theMethod args0 :: below0 := rfl
set_option maxRecDepth 65536 in
theorem w_args : argsFit about1.vm theMethod args0 = true := by decide +kernel
set_option maxRecDepth 65536 in
theorem w_heap : heapFits about1 = true := by decide +kernel
set_option maxRecDepth 65536 in
theorem w_runnable : about1.curStatus? = some .runnable := by decide +kernel
set_option maxRecDepth 65536 in
theorem w_alone : about1.alone = true := by decide +kernel
set_option maxRecDepth 65536 in
theorem w_named : about1.methodNamed? x = some theMethod := by decide +kernel
set_option maxRecDepth 65536 in
theorem w_hears : about1.hears theMethod below0 = true := by decide +kernel
set_option maxRecDepth 65536 in
theorem w_ripe : about1.ripe theMethod args0 below0 = true := by decide +kernel
theorem w_running : about1.status = .running := rfl
set_option maxRecDepth 65536 in
theorem w_room : about1.hasRoom e0.platform room_1 = true :=
  launch0.hasRoom_least _ room_1 (by decide +kernel) (by decide +kernel) (by decide +kernel) (by decide +kernel) (by decide +kernel) (by decide +kernel)
theorem allAtoms_all (ts : List Jvm.Cond) (a : Array Jvm.Value) (st : Jvm.State) : (allAtoms ts).before a st = ts.all (fun c => c.before a st) := by
  induction ts with
  | nil => rfl
  | cons c t ih =>
    show (Jvm.Cond.and c (allAtoms t)).before a st = _
    rw [Jvm.Cond.before_and, ih, List.all_cons]
def words1 : List Jvm.Cond := Jvm.Cond.code x code maxLocals ret :: tables_1
/-- a 'code' word, met by the world's own term for the bytes: nothing is compared byte by byte -/
theorem code_word {y : MethodName} {bytes : ByteArray} {mx : Nat} {rt : Option FieldType} {a : Array Value} {s : State} {m : MethodId} {meth : Method} {c : Code} (h1 : s.methodNamed? y = some m) (h2 : s.vm.method? m = some meth) (h3 : meth.code = some c) (h4 : c.code = bytes)
    (h5 : (c.maxLocals == mx && c.exceptionTable.isEmpty && decide (c.maxStack ≤ mostOperands) && decide (meth.sig.returnType = rt) && !meth.locks && decide (parseMethodDescriptor y.desc = some meth.sig)) = true) : (Jvm.Cond.code y bytes mx rt).before a s = true := by
  simp only [Bool.and_eq_true, beq_iff_eq, Bool.not_eq_true', decide_eq_true_eq] at h5
  obtain ⟨⟨⟨⟨⟨g1, g2⟩, g3⟩, g4⟩, g5⟩, g6⟩ := h5
  simp [Cond.before, Cond.holds, Cond.value, h1, h2, h3, h4, g1, g2, g3, g4, g5, g6]
def isCode : Jvm.Cond → Bool
  | .code _ _ _ _ => true
  | _ => false
theorem all_split {L : List Jvm.Cond} {P : Jvm.Cond → Bool} (h1 : L.all (fun c => isCode c || P c) = true) (h2 : ∀ c ∈ L.filter isCode, P c = true) : L.all P = true := by
  refine List.all_eq_true.mpr fun c hc => ?_
  have h := List.all_eq_true.mp h1 c hc
  rcases Bool.eq_false_or_eq_true (isCode c) with hi | hi
  · exact h2 c (List.mem_filter.mpr ⟨hc, hi⟩)
  · simpa [hi] using h
set_option maxRecDepth 65536 in
theorem w_c0 : (Jvm.Cond.code x code maxLocals ret).before args0 about1 = true := code_word (m := ⟨1, 3⟩) (meth := k1m3) (c := k1c3) (by decide +kernel) rfl rfl rfl (by decide +kernel)
set_option maxRecDepth 65536 in
theorem w_c1 : (Jvm.Cond.code ({ cls := "com/example/datumbridge/datumbridge/cli/InputLinesFieldEndPinLaw", name := "draw", desc := "(I)C" } : Jvm.MethodName) method_2_code (2 : Nat) (Option.some Jvm.ClassFile.FieldType.char)).before args0 about1 = true := code_word (m := ⟨1, 1⟩) (meth := k1m1) (c := k1c1) (by decide +kernel) rfl rfl rfl (by decide +kernel)
set_option maxRecDepth 65536 in
theorem w_c2 : (Jvm.Cond.code ({ cls := "java/lang/String", name := "<init>", desc := "([C)V" } : Jvm.MethodName) jdk_42_method_3_code (2 : Nat) (Option.none : Option Jvm.ClassFile.FieldType)).before args0 about1 = true := code_word (m := ⟨7, 1⟩) (meth := k7m1) (c := k7c1) (by decide +kernel) rfl rfl rfl (by decide +kernel)
set_option maxRecDepth 65536 in
theorem w_c3 : (Jvm.Cond.code ({ cls := "java/lang/String", name := "<init>", desc := "([CIILjava/lang/Void;)V" } : Jvm.MethodName) jdk_42_method_149_code (6 : Nat) (Option.none : Option Jvm.ClassFile.FieldType)).before args0 about1 = true := code_word (m := ⟨7, 4⟩) (meth := k7m4) (c := k7c4) (by decide +kernel) rfl rfl rfl (by decide +kernel)
set_option maxRecDepth 65536 in
theorem w_c4 : (Jvm.Cond.code ({ cls := "java/lang/Object", name := "<init>", desc := "()V" } : Jvm.MethodName) object_method_1_code (1 : Nat) (Option.none : Option Jvm.ClassFile.FieldType)).before args0 about1 = true := code_word (m := ⟨0, 0⟩) (meth := k0m0) (c := k0c0) (by decide +kernel) rfl rfl rfl (by decide +kernel)
set_option maxRecDepth 65536 in
theorem w_c5 : (Jvm.Cond.code ({ cls := "java/lang/StringUTF16", name := "compress", desc := "([CII)[B" } : Jvm.MethodName) jdk_52_method_16_code (6 : Nat) (Option.some (Jvm.ClassFile.FieldType.array Jvm.ClassFile.FieldType.byte))).before args0 about1 = true := code_word (m := ⟨8, 2⟩) (meth := k8m2) (c := k8c2) (by decide +kernel) rfl rfl rfl (by decide +kernel)
set_option maxRecDepth 65536 in
theorem w_c6 : (Jvm.Cond.code ({ cls := "java/lang/StringUTF16", name := "compress", desc := "([CI[BII)I" } : Jvm.MethodName) jdk_52_method_21_code (7 : Nat) (Option.some Jvm.ClassFile.FieldType.int)).before args0 about1 = true := code_word (m := ⟨8, 3⟩) (meth := k8m3) (c := k8c3) (by decide +kernel) rfl rfl rfl (by decide +kernel)
set_option maxRecDepth 65536 in
theorem w_c7 : (Jvm.Cond.code ({ cls := "java/lang/StringUTF16", name := "coderFromArrayLen", desc := "([BI)B" } : Jvm.MethodName) jdk_52_method_15_code (2 : Nat) (Option.some Jvm.ClassFile.FieldType.byte)).before args0 about1 = true := code_word (m := ⟨8, 1⟩) (meth := k8m1) (c := k8c1) (by decide +kernel) rfl rfl rfl (by decide +kernel)
set_option maxRecDepth 65536 in
theorem w_c8 : (Jvm.Cond.code ({ cls := "com/example/datumbridge/datumbridge/cli/InputLinesFieldEndPinLaw", name := "blank", desc := "(C)Z" } : Jvm.MethodName) method_3_code (1 : Nat) (Option.some Jvm.ClassFile.FieldType.boolean)).before args0 about1 = true := code_word (m := ⟨1, 2⟩) (meth := k1m2) (c := k1c2) (by decide +kernel) rfl rfl rfl (by decide +kernel)
set_option maxRecDepth 65536 in
theorem w_c9 : (Jvm.Cond.code ({ cls := "com/example/datumbridge/datumbridge/cli/InputLines", name := "fieldEnd", desc := "(Ljava/lang/String;I)I" } : Jvm.MethodName) prog_9_method_5_code (3 : Nat) (Option.some Jvm.ClassFile.FieldType.int)).before args0 about1 = true := code_word (m := ⟨9, 1⟩) (meth := k9m1) (c := k9c1) (by decide +kernel) rfl rfl rfl (by decide +kernel)
set_option maxRecDepth 65536 in
theorem w_c10 : (Jvm.Cond.code ({ cls := "java/lang/String", name := "length", desc := "()I" } : Jvm.MethodName) jdk_42_method_54_code (1 : Nat) (Option.some Jvm.ClassFile.FieldType.int)).before args0 about1 = true := code_word (m := ⟨7, 2⟩) (meth := k7m2) (c := k7c2) (by decide +kernel) rfl rfl rfl (by decide +kernel)
set_option maxRecDepth 65536 in
theorem w_c11 : (Jvm.Cond.code ({ cls := "java/lang/String", name := "coder", desc := "()B" } : Jvm.MethodName) jdk_42_method_152_code (1 : Nat) (Option.some Jvm.ClassFile.FieldType.byte)).before args0 about1 = true := code_word (m := ⟨7, 5⟩) (meth := k7m5) (c := k7c5) (by decide +kernel) rfl rfl rfl (by decide +kernel)
set_option maxRecDepth 65536 in
theorem w_c12 : (Jvm.Cond.code ({ cls := "java/lang/String", name := "charAt", desc := "(I)C" } : Jvm.MethodName) jdk_42_method_56_code (2 : Nat) (Option.some Jvm.ClassFile.FieldType.char)).before args0 about1 = true := code_word (m := ⟨7, 3⟩) (meth := k7m3) (c := k7c3) (by decide +kernel) rfl rfl rfl (by decide +kernel)
set_option maxRecDepth 65536 in
theorem w_c13 : (Jvm.Cond.code ({ cls := "java/lang/String", name := "isLatin1", desc := "()Z" } : Jvm.MethodName) jdk_42_method_154_code (1 : Nat) (Option.some Jvm.ClassFile.FieldType.boolean)).before args0 about1 = true := code_word (m := ⟨7, 6⟩) (meth := k7m6) (c := k7c6) (by decide +kernel) rfl rfl rfl (by decide +kernel)
set_option maxRecDepth 65536 in
theorem w_c14 : (Jvm.Cond.code ({ cls := "java/lang/StringLatin1", name := "charAt", desc := "([BI)C" } : Jvm.MethodName) jdk_43_method_2_code (2 : Nat) (Option.some Jvm.ClassFile.FieldType.char)).before args0 about1 = true := code_word (m := ⟨10, 1⟩) (meth := k10m1) (c := k10c1) (by decide +kernel) rfl rfl rfl (by decide +kernel)
set_option maxRecDepth 65536 in
theorem w_c15 : (Jvm.Cond.code ({ cls := "java/lang/String", name := "checkIndex", desc := "(II)V" } : Jvm.MethodName) jdk_42_method_155_code (2 : Nat) (Option.none : Option Jvm.ClassFile.FieldType)).before args0 about1 = true := code_word (m := ⟨7, 7⟩) (meth := k7m7) (c := k7c7) (by decide +kernel) rfl rfl rfl (by decide +kernel)
set_option maxRecDepth 65536 in
theorem w_c16 : (Jvm.Cond.code ({ cls := "jdk/internal/util/Preconditions", name := "checkIndex", desc := "(IILjava/util/function/BiFunction;)I" } : Jvm.MethodName) jdk_41_method_11_code (3 : Nat) (Option.some Jvm.ClassFile.FieldType.int)).before args0 about1 = true := code_word (m := ⟨11, 1⟩) (meth := k11m1) (c := k11c1) (by decide +kernel) rfl rfl rfl (by decide +kernel)
set_option maxRecDepth 65536 in
theorem w_c17 : (Jvm.Cond.code ({ cls := "com/example/datumbridge/datumbridge/cli/InputLines", name := "isBlank", desc := "(C)Z" } : Jvm.MethodName) prog_9_method_6_code (1 : Nat) (Option.some Jvm.ClassFile.FieldType.boolean)).before args0 about1 = true := code_word (m := ⟨9, 2⟩) (meth := k9m2) (c := k9c2) (by decide +kernel) rfl rfl rfl (by decide +kernel)
def codes1 : List Jvm.Cond := [Jvm.Cond.code x code maxLocals ret, Jvm.Cond.code ({ cls := "com/example/datumbridge/datumbridge/cli/InputLinesFieldEndPinLaw", name := "draw", desc := "(I)C" } : Jvm.MethodName) method_2_code (2 : Nat) (Option.some Jvm.ClassFile.FieldType.char), Jvm.Cond.code ({ cls := "java/lang/String", name := "<init>", desc := "([C)V" } : Jvm.MethodName) jdk_42_method_3_code (2 : Nat) (Option.none : Option Jvm.ClassFile.FieldType), Jvm.Cond.code ({ cls := "java/lang/String", name := "<init>", desc := "([CIILjava/lang/Void;)V" } : Jvm.MethodName) jdk_42_method_149_code (6 : Nat) (Option.none : Option Jvm.ClassFile.FieldType), Jvm.Cond.code ({ cls := "java/lang/Object", name := "<init>", desc := "()V" } : Jvm.MethodName) object_method_1_code (1 : Nat) (Option.none : Option Jvm.ClassFile.FieldType), Jvm.Cond.code ({ cls := "java/lang/StringUTF16", name := "compress", desc := "([CII)[B" } : Jvm.MethodName) jdk_52_method_16_code (6 : Nat) (Option.some (Jvm.ClassFile.FieldType.array Jvm.ClassFile.FieldType.byte)), Jvm.Cond.code ({ cls := "java/lang/StringUTF16", name := "compress", desc := "([CI[BII)I" } : Jvm.MethodName) jdk_52_method_21_code (7 : Nat) (Option.some Jvm.ClassFile.FieldType.int), Jvm.Cond.code ({ cls := "java/lang/StringUTF16", name := "coderFromArrayLen", desc := "([BI)B" } : Jvm.MethodName) jdk_52_method_15_code (2 : Nat) (Option.some Jvm.ClassFile.FieldType.byte), Jvm.Cond.code ({ cls := "com/example/datumbridge/datumbridge/cli/InputLinesFieldEndPinLaw", name := "blank", desc := "(C)Z" } : Jvm.MethodName) method_3_code (1 : Nat) (Option.some Jvm.ClassFile.FieldType.boolean), Jvm.Cond.code ({ cls := "com/example/datumbridge/datumbridge/cli/InputLines", name := "fieldEnd", desc := "(Ljava/lang/String;I)I" } : Jvm.MethodName) prog_9_method_5_code (3 : Nat) (Option.some Jvm.ClassFile.FieldType.int), Jvm.Cond.code ({ cls := "java/lang/String", name := "length", desc := "()I" } : Jvm.MethodName) jdk_42_method_54_code (1 : Nat) (Option.some Jvm.ClassFile.FieldType.int), Jvm.Cond.code ({ cls := "java/lang/String", name := "coder", desc := "()B" } : Jvm.MethodName) jdk_42_method_152_code (1 : Nat) (Option.some Jvm.ClassFile.FieldType.byte), Jvm.Cond.code ({ cls := "java/lang/String", name := "charAt", desc := "(I)C" } : Jvm.MethodName) jdk_42_method_56_code (2 : Nat) (Option.some Jvm.ClassFile.FieldType.char), Jvm.Cond.code ({ cls := "java/lang/String", name := "isLatin1", desc := "()Z" } : Jvm.MethodName) jdk_42_method_154_code (1 : Nat) (Option.some Jvm.ClassFile.FieldType.boolean), Jvm.Cond.code ({ cls := "java/lang/StringLatin1", name := "charAt", desc := "([BI)C" } : Jvm.MethodName) jdk_43_method_2_code (2 : Nat) (Option.some Jvm.ClassFile.FieldType.char), Jvm.Cond.code ({ cls := "java/lang/String", name := "checkIndex", desc := "(II)V" } : Jvm.MethodName) jdk_42_method_155_code (2 : Nat) (Option.none : Option Jvm.ClassFile.FieldType), Jvm.Cond.code ({ cls := "jdk/internal/util/Preconditions", name := "checkIndex", desc := "(IILjava/util/function/BiFunction;)I" } : Jvm.MethodName) jdk_41_method_11_code (3 : Nat) (Option.some Jvm.ClassFile.FieldType.int), Jvm.Cond.code ({ cls := "com/example/datumbridge/datumbridge/cli/InputLines", name := "isBlank", desc := "(C)Z" } : Jvm.MethodName) prog_9_method_6_code (1 : Nat) (Option.some Jvm.ClassFile.FieldType.boolean)]
set_option maxRecDepth 65536 in
theorem codes_eq : words1.filter isCode = codes1 := rfl
theorem w_codes : ∀ c ∈ words1.filter isCode, c.before args0 about1 = true := by
  rw [codes_eq]
  intro c hc
  simp only [codes1, List.mem_cons, List.not_mem_nil, or_false] at hc
  rcases hc with rfl | rfl | rfl | rfl | rfl | rfl | rfl | rfl | rfl | rfl | rfl | rfl | rfl | rfl | rfl | rfl | rfl | rfl
  · exact w_c0
  · exact w_c1
  · exact w_c2
  · exact w_c3
  · exact w_c4
  · exact w_c5
  · exact w_c6
  · exact w_c7
  · exact w_c8
  · exact w_c9
  · exact w_c10
  · exact w_c11
  · exact w_c12
  · exact w_c13
  · exact w_c14
  · exact w_c15
  · exact w_c16
  · exact w_c17
set_option maxRecDepth 65536 in
theorem w_t1 : (words1.take 24).all (fun c => isCode c || c.before args0 about1) = true := by decide +kernel
set_option maxRecDepth 65536 in
theorem w_t2 : ((words1.drop 24).take 24).all (fun c => isCode c || c.before args0 about1) = true := by decide +kernel
set_option maxRecDepth 65536 in
theorem w_t3 : (((words1.drop 24).drop 24).take 24).all (fun c => isCode c || c.before args0 about1) = true := by decide +kernel
set_option maxRecDepth 65536 in
theorem w_t4 : (((words1.drop 24).drop 24).drop 24).all (fun c => isCode c || c.before args0 about1) = true := by decide +kernel
theorem w_tables : (allAtoms (Jvm.Cond.code x code maxLocals ret :: tables_1)).before args0 about1 = true := by
  rw [allAtoms_all]
  show words1.all (fun c => c.before args0 about1) = true
  refine all_split ?_ w_codes
  rw [← List.take_append_drop 24 words1, List.all_append, w_t1, ← List.take_append_drop 24 (words1.drop 24), List.all_append, w_t2, ← List.take_append_drop 24 ((words1.drop 24).drop 24), List.all_append, w_t3, w_t4]
  rfl
set_option maxRecDepth 65536 in
theorem w_rest : rest_1_c.before args0 about1 = true := by decide +kernel
set_option maxRecDepth 65536 in
theorem w_case : (Jvm.Cond.and given_1 narrow_1).before args0 about1 = true := by decide +kernel
theorem w_applies : (headSpec (Jvm.Cond.code x code maxLocals ret :: tables_1) room_1).applies x e0.platform about1 = true :=
  (Spec.applies_iff w_frames).mpr ⟨w_running, w_runnable, w_alone, w_named, w_hears, w_ripe, w_room, w_tables⟩
theorem atStart : AtStart classFile x code maxLocals ret World_1 tables_1 room_1 Calls_1 rest_1 Pre_1 launch0 p0 e0 about1 theMethod args0 below0 :=
  ⟨lists_1, trivial, launch0.admits_env _ _ _, launch0.least_env, fairChoices_fair.cas, fairChoices_fair.clock, w_frames, w_args, w_heap, w_applies, trivial, w_rest, w_case⟩
end start1
theorem witness_1 : WitnessClaimed_1 := ⟨start1.p0, start1.e0, start1.about1, start1.theMethod, start1.args0, start1.below0, start1.atStart⟩
end Jvm.Pilot.@@N@@
