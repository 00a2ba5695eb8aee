import JvmDerived
import JvmDerived.Pilot.@@N@@Statement
import JvmDerived.Pilot.@@N@@Code
set_option linter.unusedVariables false
set_option linter.unusedSimpArgs false
/- laws to paste: Road.backV, Road.lenW, Road.eqW, Road.codOf (cut by pick.py; bodies as the Statement names them) -/
namespace Jvm.Pilot.@@N@@
namespace StrChars
open Jvm Sem ClassFile Op Lib Jvm.Stand Jvm.Free.XT Jvm.Free.ALB Jvm.Free.JM Jvm.Free
open Jvm.Lib.Cold (StaticIs)
/-- a char array whose places are chars -/
def Ch (a : Addr) (A : Cell) (U : State) : Prop := Arr .char a A U ∧ Typed .char A
theorem Ch.mv {a : Addr} {A : Cell} {U U' : State} (h : Ch a A U) (hal : U.vm.Alike U'.vm) (hh : U'.heap = U.heap) : Ch a A U' := ⟨h.1.mv hal hh, h.2⟩
theorem Ch.keep {a : Addr} {A : Cell} {U U' : State} (h : Ch a A U) (hal : U.vm.Alike U'.vm) (hk : U'.heap[a]? = some A) : Ch a A U' := ⟨h.1.keep hal hk, h.2⟩
/-- what place i of a char[]'s cell holds -/
def cv (A : Cell) (i : Nat) : Int32 := match A.slots[i]? with | some (.int x) => x | _ => 0
theorem Ch.get {a : Addr} {A : Cell} {U : State} (h : Ch a A U) {i : Nat} (hi : i < A.slots.size) : A.slots[i]? = some (.int (cv A i)) := by
  have e := Array.getElem?_eq_getElem hi
  have f := h.2 i _ e
  unfold cv; rw [e]
  generalize A.slots[i] = v at f
  cases v <;> simp [fits] at f ⊢
/-- the byte that i2b leaves of a char -/
def lo8 (x : Int32) : Int32 := x.toInt8.toInt32
theorem fits_lo8 (y : Int32) : fits .byte (.int (lo8 y)) = true := by
  have h1 := y.toInt8.le_toInt
  have h2 := y.toInt8.toInt_lt
  simp only [lo8, fits, Bool.and_eq_true, decide_eq_true_eq, Int32.le_iff_toInt_le, Int8.toInt_toInt32, show (-128 : Int32).toInt = -128 from by decide, show (127 : Int32).toInt = 127 from by decide]
  omega
/-- A' is A but that each place j of lo .. hi - 1 holds f j -/
def Laid (A A' : Cell) (lo hi : Nat) (f : Nat → Value) : Prop := A'.cls = A.cls ∧ A'.vm = A.vm ∧ A'.slots.size = A.slots.size ∧ ∀ i, A'.slots[i]? = if lo ≤ i ∧ i < hi then some (f i) else A.slots[i]?
theorem Laid.zero (A : Cell) (lo : Nat) (f : Nat → Value) : Laid A A lo (lo + 0) f := ⟨rfl, rfl, rfl, fun i => by rw [if_neg (by omega)]⟩
theorem Laid.step {A Ak : Cell} {lo k : Nat} {f : Nat → Value} {v : Value} (h : Laid A Ak lo k f) (hlo : lo ≤ k) (hk : k < Ak.slots.size) (hv : v = f k) : Laid A (Ak.setSlot k v) lo (k + 1) f := by
  refine ⟨h.1, h.2.1, by simpa [Cell.setSlot] using h.2.2.1, fun i => ?_⟩
  by_cases e : k = i
  · subst e; rw [Cell.slots_setSlot_self v hk, if_pos (by omega), hv]
  · rw [Cell.slots_setSlot_ne v e, h.2.2.2 i]
    by_cases q : lo ≤ i ∧ i < k
    · rw [if_pos q, if_pos (by omega)]
    · rw [if_neg q, if_neg (by omega)]
def U16 : String := "java/lang/StringUTF16"
namespace Cmp5
def yN : MethodName := ⟨"java/lang/StringUTF16", "compress", "([CI[BII)I"⟩
abbrev yB : ByteArray := jdk_52_method_21_code
theorem d0 : decode yB 0 = .ok (.iconst 0, 1) := by decide +kernel
theorem d1 : decode yB 1 = .ok (.istore 5, 2) := by decide +kernel
theorem d3 : decode yB 3 = .ok (.iload 5, 2) := by decide +kernel
theorem d5 : decode yB 5 = .ok (.iload 4, 2) := by decide +kernel
theorem d7 : decode yB 7 = .ok (.if_icmp (.ge) 37, 3) := by decide +kernel
theorem d10 : decode yB 10 = .ok (.aload_n 0, 1) := by decide +kernel
theorem d11 : decode yB 11 = .ok (.iload_n 1, 1) := by decide +kernel
theorem d12 : decode yB 12 = .ok (.caload, 1) := by decide +kernel
theorem d13 : decode yB 13 = .ok (.istore 6, 2) := by decide +kernel
theorem d15 : decode yB 15 = .ok (.iload 6, 2) := by decide +kernel
theorem d17 : decode yB 17 = .ok (.sipush 255, 3) := by decide +kernel
theorem d20 : decode yB 20 = .ok (.if_icmp (.le) 6, 3) := by decide +kernel
theorem d26 : decode yB 26 = .ok (.aload_n 2, 1) := by decide +kernel
theorem d27 : decode yB 27 = .ok (.iload_n 3, 1) := by decide +kernel
theorem d28 : decode yB 28 = .ok (.iload 6, 2) := by decide +kernel
theorem d30 : decode yB 30 = .ok (.i2b, 1) := by decide +kernel
theorem d31 : decode yB 31 = .ok (.bastore, 1) := by decide +kernel
theorem d32 : decode yB 32 = .ok (.iinc 1 1, 3) := by decide +kernel
theorem d35 : decode yB 35 = .ok (.iinc 3 1, 3) := by decide +kernel
theorem d38 : decode yB 38 = .ok (.iinc 5 1, 3) := by decide +kernel
theorem d41 : decode yB 41 = .ok (.goto (-38), 3) := by decide +kernel
theorem d44 : decode yB 44 = .ok (.iload 4, 2) := by decide +kernel
theorem d46 : decode yB 46 = .ok (.ireturn, 1) := by decide +kernel
def site : List Cond := []
def tab : Cond := tabOf yN yB 7 (some .int) site
def P (b : Addr) (A : Cell) (d : Addr) (B : Cell) (o q len : Nat) (args : Array Value) (s : State) : Prop := args = #[.ref b, .int (Int32.ofNat o), .ref d, .int (Int32.ofNat q), .int (Int32.ofNat len)] ∧ Ch b A s ∧ Arr .byte d B s ∧ b ≠ d ∧ o + len ≤ A.slots.size ∧ q + len ≤ B.slots.size ∧ ∀ i, i < len → ¬ 255 < cv A (o + i)
def E (b : Addr) (A : Cell) (d : Addr) (B : Cell) (o q len : Nat) (r : Option Value) (s u : State) : Prop := r = some (.int (Int32.ofNat len)) ∧ ∃ B', Put d B' s u ∧ Laid B B' q (q + len) (fun j => Value.int (lo8 (cv A (o + (j - q)))))
/-- no char of the range above 255: len; the places written hold each char's low byte -/
theorem law (l : Launch) (b : Addr) (A : Cell) (d : Addr) (B : Cell) (o q len : Nat) : Law l yN 5 5 0 0 yB 7 (some .int) site (P b A d B o q len) (E b A d B o q len) (copyLocs d q len) 0 0 := by
  refine Law.of_walk (plainFor_of_name (by decide +kernel)) (by decide +kernel) (by decide +kernel) (by decide) (fun _ _ h => by rw [h.1]; rfl) (fun _ U U' hal hh h => ⟨h.1, h.2.1.mv hal hh, h.2.2.1.mv hal hh, h.2.2.2⟩) (fun r U U' V V' h1 hal h2 h => ⟨h.1, h.2.elim fun B' q => ⟨B', q.1.mv h1 h2, q.2⟩⟩) ?_
  intro p e s m args below meth c s₁ X0 hexec hbytes hml hret hlk hnm hown hh0 W hP
  obtain ⟨rfl, hA, hB, hne, l1, l2, hp⟩ := hP
  have c1 : Steps p.tables e below (s₁.setTop (entryFrame m #[.ref b, .int (Int32.ofNat o), .ref d, .int (Int32.ofNat q), .int (Int32.ofNat len)] 7)) (s₁.setTop (mkF m 0 #[.val (.ref b), .val (.int (Int32.ofNat o)), .val (.ref d), .val (.int (Int32.ofNat q)), .val (.int (Int32.ofNat len)), .unset, .unset] [])) := entry rfl
  have hA0 := hA.1.mv X0.warmed.alike hh0
  have hB0 := hB.mv X0.warmed.alike hh0
  have a31 := hA.1.2.2.2
  have c2 : Steps p.tables e below (s₁.setTop (entryFrame m #[.ref b, .int (Int32.ofNat o), .ref d, .int (Int32.ofNat q), .int (Int32.ofNat len)] 7)) (s₁.setTop (mkF m 3 #[.val (.ref b), .val (.int (Int32.ofNat o)), .val (.ref d), .val (.int (Int32.ofNat q)), .val (.int (Int32.ofNat len)), .val (.int 0), .unset] [])) := c1.trans (by
    refine iconstV X0.here hexec rfl 0 (hb hbytes d0) (by decide) ?_
    refine XS.istore X0.here hexec rfl (hb hbytes d1) rfl rfl ?_
    exact Steps.refl _)
  have loop : ∀ (r i : Nat), i + r = len → ∀ (z : Slot), (z = .unset ∨ ∃ w, z = .val w ∧ w.category = 1) → ∀ (Tl : State) (Bk : Cell), Stand p l e { frames := 0, locals := 0, cells := 0, slots := 0 } s m #[.ref b, .int (Int32.ofNat o), .ref d, .int (Int32.ofNat q), .int (Int32.ofNat len)] below meth c Tl ([] ++ copyLocs d q i) 0 0 → Put d Bk s₁ Tl → Laid B Bk q (q + i) (fun j => Value.int (lo8 (cv A (o + (j - q))))) →
      Steps p.tables e below (s₁.setTop (entryFrame m #[.ref b, .int (Int32.ofNat o), .ref d, .int (Int32.ofNat q), .int (Int32.ofNat len)] 7)) (Tl.setTop (mkF m 3 #[.val (.ref b), .val (.int (Int32.ofNat (o + i))), .val (.ref d), .val (.int (Int32.ofNat (q + i))), .val (.int (Int32.ofNat len)), .val (.int (Int32.ofNat i)), z] [])) → ∃ (T' : State) (B' : Cell) (z' : Slot), Stand p l e { frames := 0, locals := 0, cells := 0, slots := 0 } s m #[.ref b, .int (Int32.ofNat o), .ref d, .int (Int32.ofNat q), .int (Int32.ofNat len)] below meth c T' ([] ++ copyLocs d q len) 0 0 ∧ Put d B' s₁ T' ∧ Laid B B' q (q + len) (fun j => Value.int (lo8 (cv A (o + (j - q))))) ∧
      Steps p.tables e below (s₁.setTop (entryFrame m #[.ref b, .int (Int32.ofNat o), .ref d, .int (Int32.ofNat q), .int (Int32.ofNat len)] 7)) (T'.setTop (mkF m 3 #[.val (.ref b), .val (.int (Int32.ofNat (o + len))), .val (.ref d), .val (.int (Int32.ofNat (q + len))), .val (.int (Int32.ofNat len)), .val (.int (Int32.ofNat len)), z'] [])) := by
    intro r
    induction r with
    | zero =>
      intro i hi z hz Tl Bk Xl pl fl cl
      have hil : i = len := by omega
      rw [hil] at Xl fl cl
      exact ⟨Tl, Bk, z, Xl, pl, fl, cl⟩
    | succ r ih =>
      intro i hi z hz Tl Bk Xl pl fl cl
      have all := X0.warmed.alike.symm.trans Xl.warmed.alike
      have hAl := hA0.keep all (pl.other hne hA0.1)
      have hBk := hB0.like all pl.1 fl.1 fl.2.1 fl.2.2.1
      have hlt : q + i < Bk.slots.size := by rw [fl.2.2.1]; omega
      have c3 : Steps p.tables e below (s₁.setTop (entryFrame m #[.ref b, .int (Int32.ofNat o), .ref d, .int (Int32.ofNat q), .int (Int32.ofNat len)] 7)) (Tl.setTop (mkF m 12 #[.val (.ref b), .val (.int (Int32.ofNat (o + i))), .val (.ref d), .val (.int (Int32.ofNat (q + i))), .val (.int (Int32.ofNat len)), .val (.int (Int32.ofNat i)), z] [.int (Int32.ofNat (o + i)), .ref b])) := cl.trans (by
        refine XS.iload Xl.here hexec rfl (hb hbytes d3) rfl ?_
        refine XS.iload Xl.here hexec rfl (hb hbytes d5) rfl ?_
        refine XS.icmpNo Xl.here hexec rfl (hb hbytes d7) rfl (ii_ge_f (lt32 (by omega) (by omega))) ?_
        refine XS.aloadN Xl.here hexec rfl (hb hbytes d10) rfl rfl ?_
        refine XS.iloadN Xl.here hexec rfl (hb hbytes d11) rfl ?_
        exact Steps.refl _)
      have c4 : Steps p.tables e below (s₁.setTop (entryFrame m #[.ref b, .int (Int32.ofNat o), .ref d, .int (Int32.ofNat q), .int (Int32.ofNat len)] 7)) (Tl.setTop (mkF m 13 #[.val (.ref b), .val (.int (Int32.ofNat (o + i))), .val (.ref d), .val (.int (Int32.ofNat (q + i))), .val (.int (Int32.ofNat len)), .val (.int (Int32.ofNat i)), z] [.int (cv A (o + i))])) := c3.trans (by
        refine Xl.aget hexec hAl rfl (hA.get (i := o + i) (by omega)) rfl rfl (hb hbytes d12) ?_
        exact Steps.refl _)
      have c5 : Steps p.tables e below (s₁.setTop (entryFrame m #[.ref b, .int (Int32.ofNat o), .ref d, .int (Int32.ofNat q), .int (Int32.ofNat len)] 7)) (Tl.setTop (mkF m 15 #[.val (.ref b), .val (.int (Int32.ofNat (o + i))), .val (.ref d), .val (.int (Int32.ofNat (q + i))), .val (.int (Int32.ofNat len)), .val (.int (Int32.ofNat i)), .val (.int (cv A (o + i)))] [])) := c4.trans (by
        refine XS.istoreS Xl.here hexec rfl (hb hbytes d13) rfl rfl hz ?_
        exact Steps.refl _)
      have c6 : Steps p.tables e below (s₁.setTop (entryFrame m #[.ref b, .int (Int32.ofNat o), .ref d, .int (Int32.ofNat q), .int (Int32.ofNat len)] 7)) (Tl.setTop (mkF m 31 #[.val (.ref b), .val (.int (Int32.ofNat (o + i))), .val (.ref d), .val (.int (Int32.ofNat (q + i))), .val (.int (Int32.ofNat len)), .val (.int (Int32.ofNat i)), .val (.int (cv A (o + i)))] [.int (lo8 (cv A (o + i))), .int (Int32.ofNat (q + i)), .ref d])) := c5.trans (by
        refine XS.iload Xl.here hexec rfl (hb hbytes d15) rfl ?_
        refine sipushV Xl.here hexec rfl 255 (hb hbytes d17) (by decide) ?_
        refine XS.icmpYes Xl.here hexec rfl (pc0 := 20) rfl (hb hbytes d20) rfl (ii_le_t (hp i (by omega))) (by decide) rfl ?_
        refine XS.aloadN Xl.here hexec rfl (hb hbytes d26) rfl rfl ?_
        refine XS.iloadN Xl.here hexec rfl (hb hbytes d27) rfl ?_
        refine XS.iload Xl.here hexec rfl (hb hbytes d28) rfl ?_
        refine i2b Xl.here hexec rfl (hb hbytes d30) rfl ?_
        exact Steps.refl _)
      obtain ⟨T7, X7, p7, st7⟩ := Xl.aput hexec hBk rfl hlt rfl (fits_lo8 (cv A (o + i))) (g := (mkF m 31 #[.val (.ref b), .val (.int (Int32.ofNat (o + i))), .val (.ref d), .val (.int (Int32.ofNat (q + i))), .val (.int (Int32.ofNat len)), .val (.int (Int32.ofNat i)), .val (.int (cv A (o + i)))] [.int (lo8 (cv A (o + i))), .int (Int32.ofNat (q + i)), .ref d])) rfl (rest := []) rfl (hb hbytes d31)
      have c8 : Steps p.tables e below (s₁.setTop (entryFrame m #[.ref b, .int (Int32.ofNat o), .ref d, .int (Int32.ofNat q), .int (Int32.ofNat len)] 7)) (T7.setTop (mkF m 32 #[.val (.ref b), .val (.int (Int32.ofNat (o + i))), .val (.ref d), .val (.int (Int32.ofNat (q + i))), .val (.int (Int32.ofNat len)), .val (.int (Int32.ofNat i)), .val (.int (cv A (o + i)))] [])) := c6.trans (st7 _ (Steps.refl _))
      have c9 : Steps p.tables e below (s₁.setTop (entryFrame m #[.ref b, .int (Int32.ofNat o), .ref d, .int (Int32.ofNat q), .int (Int32.ofNat len)] 7)) (T7.setTop (mkF m 3 #[.val (.ref b), .val (.int (Int32.ofNat (o + i) + 1)), .val (.ref d), .val (.int (Int32.ofNat (q + i) + 1)), .val (.int (Int32.ofNat len)), .val (.int (Int32.ofNat i + 1)), .val (.int (cv A (o + i)))] [])) := c8.trans (by
        refine iincV X7.here hexec rfl 1 (hb hbytes d32) (by decide) rfl rfl ?_
        refine iincV X7.here hexec rfl 1 (hb hbytes d35) (by decide) rfl rfl ?_
        refine iincV X7.here hexec rfl 1 (hb hbytes d38) (by decide) rfl rfl ?_
        refine XS.goto X7.here hexec rfl (pc0 := 41) rfl (hb hbytes d41) (by decide) rfl ?_
        exact Steps.refl _)
      have c10 : Steps p.tables e below (s₁.setTop (entryFrame m #[.ref b, .int (Int32.ofNat o), .ref d, .int (Int32.ofNat q), .int (Int32.ofNat len)] 7)) (T7.setTop (mkF m 3 #[.val (.ref b), .val (.int (Int32.ofNat (o + (i + 1)))), .val (.ref d), .val (.int (Int32.ofNat (q + (i + 1)))), .val (.int (Int32.ofNat len)), .val (.int (Int32.ofNat (i + 1))), .val (.int (cv A (o + i)))] [])) := by
        have := c9
        rw [succ32, succ32, succ32] at this
        exact this
      exact ih (i + 1) (by omega) _ (Or.inr ⟨_, rfl, rfl⟩) T7 _ (by rw [copyLocs_step, ← List.append_assoc]; exact X7) (pl.trans p7) (fl.step (by omega) hlt (by simp)) c10
  obtain ⟨T9, B9, z9, X9, p9, f9, g9⟩ := loop len 0 (by omega) .unset (Or.inl rfl) s₁ B (by simpa [copyLocs] using X0) ⟨hB0.1, fun _ _ => rfl, rfl⟩ (Laid.zero _ _ _) c2
  have c11 : Steps p.tables e below (s₁.setTop (entryFrame m #[.ref b, .int (Int32.ofNat o), .ref d, .int (Int32.ofNat q), .int (Int32.ofNat len)] 7)) (T9.setTop (mkF m 46 #[.val (.ref b), .val (.int (Int32.ofNat (o + len))), .val (.ref d), .val (.int (Int32.ofNat (q + len))), .val (.int (Int32.ofNat len)), .val (.int (Int32.ofNat len)), z9] [.int (Int32.ofNat len)])) := g9.trans (by
    refine XS.iload X9.here hexec rfl (hb hbytes d3) rfl ?_
    refine XS.iload X9.here hexec rfl (hb hbytes d5) rfl ?_
    refine XS.icmpYes X9.here hexec rfl (pc0 := 7) rfl (hb hbytes d7) rfl (ii_ge_t (nlt32 (by omega) (Nat.le_refl _))) (by decide) rfl ?_
    refine XS.iload X9.here hexec rfl (hb hbytes d44) rfl ?_
    exact Steps.refl _)
  exact ⟨T9, some (.int (Int32.ofNat len)), _, _, _, X9, by simp, rfl, rfl, (fun h => by cases h), ⟨rfl, B9, p9.from hh0, f9⟩, fun fs hl => c11.trans (X9.ireturnOut hexec hret rfl (Or.inl rfl) (hb hbytes d46) hl)⟩
end Cmp5
namespace Cmp3
def yN : MethodName := ⟨"java/lang/StringUTF16", "compress", "([CII)[B"⟩
abbrev yB : ByteArray := jdk_52_method_16_code
theorem d0 : decode yB 0 = .ok (.iload_n 2, 1) := by decide +kernel
theorem d1 : decode yB 1 = .ok (.newarray .byte, 2) := by decide +kernel
theorem d3 : decode yB 3 = .ok (.astore_n 3, 1) := by decide +kernel
theorem d4 : decode yB 4 = .ok (.aload_n 0, 1) := by decide +kernel
theorem d5 : decode yB 5 = .ok (.iload_n 1, 1) := by decide +kernel
theorem d6 : decode yB 6 = .ok (.aload_n 3, 1) := by decide +kernel
theorem d7 : decode yB 7 = .ok (.iconst 0, 1) := by decide +kernel
theorem d8 : decode yB 8 = .ok (.iload_n 2, 1) := by decide +kernel
theorem d9 : decode yB 9 = .ok (.invokestatic 115, 3) := by decide +kernel
theorem d12 : decode yB 12 = .ok (.istore 4, 2) := by decide +kernel
theorem d14 : decode yB 14 = .ok (.iload 4, 2) := by decide +kernel
theorem d16 : decode yB 16 = .ok (.iload_n 2, 1) := by decide +kernel
theorem d17 : decode yB 17 = .ok (.if_icmp (.eq) 40, 3) := by decide +kernel
theorem d57 : decode yB 57 = .ok (.aload_n 3, 1) := by decide +kernel
theorem d58 : decode yB 58 = .ok (.areturn, 1) := by decide +kernel
def site : List Cond := [.arrayClass .byte, Cmp5.tab] ++ staticW U16 115 Cmp5.yN
def tab : Cond := tabOf yN yB 6 (some (.array .byte)) site
def P (b : Addr) (A : Cell) (o len : Nat) (args : Array Value) (s : State) : Prop := args = #[.ref b, .int (Int32.ofNat o), .int (Int32.ofNat len)] ∧ Ch b A s ∧ o + len ≤ A.slots.size ∧ len ≤ 536870912 ∧ ∀ i, i < len → ¬ 255 < cv A (o + i)
def E (b : Addr) (A : Cell) (o len : Nat) (r : Option Value) (s u : State) : Prop := NewArr .byte "[B" len (fun j => .int (lo8 (cv A (o + j)))) r s u ∧ u.heap.size = s.heap.size + 1
/-- no char of the range above 255: a new byte[] of their low bytes -/
theorem law (l : Launch) (b : Addr) (A : Cell) (o len : Nat) : Law l yN 3 3 1 18 yB 6 (some (.array .byte)) site (P b A o len) (E b A o len) [] 1 len := by
  refine Law.of_walk (plainFor_of_name (by decide +kernel)) (by decide +kernel) (by decide +kernel) (by decide) (fun _ _ h => by rw [h.1]; rfl) (fun _ U U' hal hh h => ⟨h.1, h.2.1.mv hal hh, h.2.2⟩) (fun r U U' V V' h1 hal h2 h => ⟨NewArr.mv r U U' V V' h1 hal h2 h.1, by rw [h1, h2]; exact h.2⟩) ?_
  intro p e s m args below meth c s₁ X0 hexec hbytes hml hret hlk hnm hown hh0 W hP
  obtain ⟨rfl, hA, l1, l2, hp⟩ := hP
  have a31 := hA.1.2.2.2
  have c1 : Steps p.tables e below (s₁.setTop (entryFrame m #[.ref b, .int (Int32.ofNat o), .int (Int32.ofNat len)] 6)) (s₁.setTop (mkF m 0 #[.val (.ref b), .val (.int (Int32.ofNat o)), .val (.int (Int32.ofNat len)), .unset, .unset, .unset] [])) := entry rfl
  have c2 : Steps p.tables e below (s₁.setTop (entryFrame m #[.ref b, .int (Int32.ofNat o), .int (Int32.ofNat len)] 6)) (s₁.setTop (mkF m 1 #[.val (.ref b), .val (.int (Int32.ofNat o)), .val (.int (Int32.ofNat len)), .unset, .unset, .unset] [.int (Int32.ofNat len)])) := c1.trans (by
    refine XS.iloadN X0.here hexec rfl (hb hbytes d0) rfl ?_
    exact Steps.refl _)
  obtain ⟨T3, B3, X3, ba3, bs3, bv3, bh3, bf3, st3⟩ := X0.anew hexec (atype := .byte) (wk W (.arrayClass .byte)) rfl (by show len * 1 ≤ _; omega) (by omega) (g := (mkF m 1 #[.val (.ref b), .val (.int (Int32.ofNat o)), .val (.int (Int32.ofNat len)), .unset, .unset, .unset] [.int (Int32.ofNat len)])) rfl (hb hbytes d1) (rest := []) rfl (Nat.le_refl _) (by show 0 + len ≤ len; omega)
  rw [hh0] at ba3 st3
  have kp3 : XT.Kept s T3 := (XT.Kept.of_eq hh0).push bh3
  have hA3 := hA.keep X3.warmed.alike (kp3 _ _ hA.1.1)
  have hne : b ≠ s.heap.size := hA.1.ne
  have c4 : Steps p.tables e below (s₁.setTop (entryFrame m #[.ref b, .int (Int32.ofNat o), .int (Int32.ofNat len)] 6)) (T3.setTop (mkF m 3 #[.val (.ref b), .val (.int (Int32.ofNat o)), .val (.int (Int32.ofNat len)), .unset, .unset, .unset] [.ref s.heap.size])) := c2.trans (st3 _ (Steps.refl _))
  have c5 : Steps p.tables e below (s₁.setTop (entryFrame m #[.ref b, .int (Int32.ofNat o), .int (Int32.ofNat len)] 6)) (T3.setTop (mkF m 9 #[.val (.ref b), .val (.int (Int32.ofNat o)), .val (.int (Int32.ofNat len)), .val (.ref s.heap.size), .unset, .unset] [.int (Int32.ofNat len), .int 0, .ref s.heap.size, .int (Int32.ofNat o), .ref b])) := c4.trans (by
    refine XS.astoreN X3.here hexec rfl (hb hbytes d3) rfl rfl rfl ?_
    refine XS.aloadN X3.here hexec rfl (hb hbytes d4) rfl rfl ?_
    refine XS.iloadN X3.here hexec rfl (hb hbytes d5) rfl ?_
    refine XS.aloadN X3.here hexec rfl (hb hbytes d6) rfl rfl ?_
    refine iconstV X3.here hexec rfl 0 (hb hbytes d7) (by decide) ?_
    refine XS.iloadN X3.here hexec rfl (hb hbytes d8) rfl ?_
    exact Steps.refl _)
  obtain ⟨v6, T6, X6, E6, g6⟩ := X3.callS hexec (Cmp5.law l b A s.heap.size B3 o 0 len) hown (wks W (staticW U16 115 Cmp5.yN)) (wk W Cmp5.tab) (W := 0) (Nat.le_of_ble_eq_true rfl) (Nat.le_of_ble_eq_true rfl) (Nat.le_refl _) (by show 0 + len + 0 ≤ len; omega) (g := (mkF m 9 #[.val (.ref b), .val (.int (Int32.ofNat o)), .val (.int (Int32.ofNat len)), .val (.ref s.heap.size), .unset, .unset] [.int (Int32.ofNat len), .int (Int32.ofNat 0), .ref s.heap.size, .int (Int32.ofNat o), .ref b])) rfl (by rw [hml]; rfl) c5 (argsL := [.ref b, .int (Int32.ofNat o), .ref s.heap.size, .int (Int32.ofNat 0), .int (Int32.ofNat len)]) (rest := []) rfl rfl (by show 2 * 0 + 0 ≤ _; decide) (hb hbytes d9) (⟨rfl, hA3, ba3, hne, l1, by rw [bs3]; simp, hp⟩)
  obtain ⟨rfl, B6, p6, f6⟩ := E6
  have c7 : Steps p.tables e below (s₁.setTop (entryFrame m #[.ref b, .int (Int32.ofNat o), .int (Int32.ofNat len)] 6)) (T6.setTop (mkF m 12 #[.val (.ref b), .val (.int (Int32.ofNat o)), .val (.int (Int32.ofNat len)), .val (.ref s.heap.size), .unset, .unset] [.int (Int32.ofNat len)])) := g6
  have c8 : Steps p.tables e below (s₁.setTop (entryFrame m #[.ref b, .int (Int32.ofNat o), .int (Int32.ofNat len)] 6)) (T6.setTop (mkF m 58 #[.val (.ref b), .val (.int (Int32.ofNat o)), .val (.int (Int32.ofNat len)), .val (.ref s.heap.size), .val (.int (Int32.ofNat len)), .unset] [.ref s.heap.size])) := c7.trans (by
    refine XS.istore X6.here hexec rfl (hb hbytes d12) rfl rfl ?_
    refine XS.iload X6.here hexec rfl (hb hbytes d14) rfl ?_
    refine XS.iloadN X6.here hexec rfl (hb hbytes d16) rfl ?_
    refine XS.icmpYes X6.here hexec rfl (pc0 := 17) rfl (hb hbytes d17) rfl (ii_eq_t rfl) (by decide) rfl ?_
    refine XS.aloadN X6.here hexec rfl (hb hbytes d57) rfl rfl ?_
    exact Steps.refl _)
  have X8 := X6.wide (L' := []) (cells' := 1) (slots' := len) (fun x hx hlt => by
    simp only [List.nil_append, copyLocs, List.mem_map, List.mem_range] at hx
    obtain ⟨i, -, rfl⟩ := hx
    exact absurd hlt (Nat.lt_irrefl _)) (Nat.le_refl _) (by omega)
  exact ⟨T6, some (.ref s.heap.size), _, _, _, X8, rfl, rfl, rfl, (fun h => by cases h), ⟨⟨rfl, B6, ba3.like (X3.warmed.alike.symm.trans X6.warmed.alike) p6.1 f6.1 f6.2.1 f6.2.2.1, f6.2.1.trans bv3, by rw [X6.warmed.alike.findClass, f6.1]; exact bf3, by rw [f6.2.2.1, bs3]; simp, fun j hj => by rw [f6.2.2.2 j, if_pos (by omega)]; rfl, kp3.put p6 (Nat.le_refl _)⟩, by rw [p6.2.2, bh3, hh0]; simp⟩, fun fs hl => c8.trans (X8.areturnOut hexec rfl hret rfl (hb hbytes d58) hl)⟩
end Cmp3
namespace CodL
def yN : MethodName := ⟨"java/lang/StringUTF16", "coderFromArrayLen", "([BI)B"⟩
abbrev yB : ByteArray := jdk_52_method_15_code
theorem d0 : decode yB 0 = .ok (.iload_n 1, 1) := by decide +kernel
theorem d1 : decode yB 1 = .ok (.aload_n 0, 1) := by decide +kernel
theorem d2 : decode yB 2 = .ok (.arraylength, 1) := by decide +kernel
theorem d3 : decode yB 3 = .ok (.isub, 1) := by decide +kernel
theorem d4 : decode yB 4 = .ok (.bipush 31, 2) := by decide +kernel
theorem d6 : decode yB 6 = .ok (.iushr, 1) := by decide +kernel
theorem d7 : decode yB 7 = .ok (.i2b, 1) := by decide +kernel
theorem d8 : decode yB 8 = .ok (.ireturn, 1) := by decide +kernel
def site : List Cond := []
def tab : Cond := tabOf yN yB 2 (some .byte) site
def P (d : Addr) (B : Cell) (args : Array Value) (s : State) : Prop := args = #[.ref d, .int (Int32.ofNat B.slots.size)] ∧ Arr .byte d B s
def E (r : Option Value) (s u : State) : Prop := XT.PureE (some (.int 0)) r s u
/-- an array as long as the number of chars: LATIN1 -/
theorem law (l : Launch) (d : Addr) (B : Cell) : Law l yN 2 2 0 0 yB 2 (some .byte) site (P d B) E [] 0 0 := by
  refine Law.of_walk (plainFor_of_name (by decide +kernel)) (by decide +kernel) (by decide +kernel) (by decide) (fun _ _ h => by rw [h.1]; rfl) (fun _ U U' hal hh h => ⟨h.1, h.2.mv hal hh⟩) (fun r U U' V V' h1 hal h2 h => XT.PureE.mv r U U' V V' h1 hal h2 h) ?_
  intro p e s m args below meth c s₁ X0 hexec hbytes hml hret hlk hnm hown hh0 W hP
  obtain ⟨rfl, hB⟩ := hP
  have hB0 := hB.mv X0.warmed.alike hh0
  have c1 : Steps p.tables e below (s₁.setTop (entryFrame m #[.ref d, .int (Int32.ofNat B.slots.size)] 2)) (s₁.setTop (mkF m 0 #[.val (.ref d), .val (.int (Int32.ofNat B.slots.size))] [])) := entry rfl
  have c2 : Steps p.tables e below (s₁.setTop (entryFrame m #[.ref d, .int (Int32.ofNat B.slots.size)] 2)) (s₁.setTop (mkF m 2 #[.val (.ref d), .val (.int (Int32.ofNat B.slots.size))] [.ref d, .int (Int32.ofNat B.slots.size)])) := c1.trans (by
    refine XS.iloadN X0.here hexec rfl (hb hbytes d0) rfl ?_
    refine XS.aloadN X0.here hexec rfl (hb hbytes d1) rfl rfl ?_
    exact Steps.refl _)
  have c3 : Steps p.tables e below (s₁.setTop (entryFrame m #[.ref d, .int (Int32.ofNat B.slots.size)] 2)) (s₁.setTop (mkF m 8 #[.val (.ref d), .val (.int (Int32.ofNat B.slots.size))] [.int (lo8 (ushr (Int32.ofNat B.slots.size - Int32.ofNat B.slots.size) 31))])) := c2.trans (by
    refine X0.alen hexec hB0 rfl rfl (hb hbytes d2) ?_
    refine XS.isub X0.here hexec rfl (hb hbytes d3) rfl ?_
    refine bipushV X0.here hexec rfl 31 (hb hbytes d4) (by decide) ?_
    refine iushr X0.here hexec rfl (hb hbytes d6) rfl ?_
    refine i2b X0.here hexec rfl (hb hbytes d7) rfl ?_
    exact Steps.refl _)
  have e0 : lo8 (ushr (Int32.ofNat B.slots.size - Int32.ofNat B.slots.size) 31) = 0 := by rw [Int32.sub_self]; decide
  rw [e0] at c3
  exact ⟨s₁, some (.int 0), _, _, _, X0, rfl, rfl, rfl, (fun h => by cases h), ⟨rfl, hh0⟩, fun fs hl => c3.trans (X0.ireturnOut hexec hret rfl (Or.inr (Or.inr (Or.inl rfl))) (hb hbytes d8) hl)⟩
end CodL
/-- the String at a is Latin-1 over a new byte[] (the heap's one new cell): the low bytes of the len chars of A from o on; every cell but a is kept -/
def Got (a : Addr) (D : Cell) (fV fC : Field) (A : Cell) (o len : Nat) (r : Option Value) (s u : State) : Prop := r = none ∧ ∃ D' V : Cell, Blank "java/lang/String" a D' u ∧ Same D D' [fV.slot, fC.slot] ∧ D'.slots[fV.slot]? = some (.ref s.heap.size) ∧ D'.slots[fC.slot]? = some (.int 0) ∧ Arr .byte s.heap.size V u ∧ V.vm = .none ∧ u.vm.findClass "[B" = some V.cls ∧ V.slots.size = len ∧ (∀ j, j < len → V.slots[j]? = some (.int (lo8 (cv A (o + j))))) ∧ (∀ (y : Addr) (c : Cell), y ≠ a → s.heap[y]? = some c → u.heap[y]? = some c) ∧ u.heap.size = s.heap.size + 1
theorem Got.mv {a : Addr} {D A : Cell} {fV fC : Field} {o len : Nat} : ∀ r (U U' V V' : State), U'.heap = U.heap → V.vm.Alike V'.vm → V'.heap = V.heap → Got a D fV fC A o len r U V → Got a D fV fC A o len r U' V' :=
  fun r U U' V V' h1 hal h2 ⟨e0, D', X, a1, a2, a3, a4, a5, a6, a7, a8, a9, a10, a11⟩ => ⟨e0, D', X, a1.mv hal h2, a2, by rw [h1]; exact a3, a4, by rw [h1]; exact a5.mv hal h2, a6, by rw [hal.findClass]; exact a7, a8, a9, by rw [h1, h2]; exact a10, by rw [h1, h2]; exact a11⟩
namespace New4
def yN : MethodName := ⟨"java/lang/String", "<init>", "([CIILjava/lang/Void;)V"⟩
abbrev yB : ByteArray := jdk_42_method_149_code
theorem d0 : decode yB 0 = .ok (.aload_n 0, 1) := by decide +kernel
theorem d1 : decode yB 1 = .ok (.invokespecial 1, 3) := by decide +kernel
theorem d4 : decode yB 4 = .ok (.iload_n 3, 1) := by decide +kernel
theorem d5 : decode yB 5 = .ok (.ifCond (.ne) 22, 3) := by decide +kernel
theorem d27 : decode yB 27 = .ok (.getstatic 38, 3) := by decide +kernel
theorem d30 : decode yB 30 = .ok (.ifCond (.eq) 28, 3) := by decide +kernel
theorem d33 : decode yB 33 = .ok (.aload_n 1, 1) := by decide +kernel
theorem d34 : decode yB 34 = .ok (.iload_n 2, 1) := by decide +kernel
theorem d35 : decode yB 35 = .ok (.iload_n 3, 1) := by decide +kernel
theorem d36 : decode yB 36 = .ok (.invokestatic 177, 3) := by decide +kernel
theorem d39 : decode yB 39 = .ok (.astore 5, 2) := by decide +kernel
theorem d41 : decode yB 41 = .ok (.aload_n 0, 1) := by decide +kernel
theorem d42 : decode yB 42 = .ok (.aload 5, 2) := by decide +kernel
theorem d44 : decode yB 44 = .ok (.iload_n 3, 1) := by decide +kernel
theorem d45 : decode yB 45 = .ok (.invokestatic 47, 3) := by decide +kernel
theorem d48 : decode yB 48 = .ok (.putfield 15, 3) := by decide +kernel
theorem d51 : decode yB 51 = .ok (.aload_n 0, 1) := by decide +kernel
theorem d52 : decode yB 52 = .ok (.aload 5, 2) := by decide +kernel
theorem d54 : decode yB 54 = .ok (.putfield 9, 3) := by decide +kernel
theorem d57 : decode yB 57 = .ok (.return_, 1) := by decide +kernel
def site : List Cond := [.fieldLink "java/lang/String" 38 "java/lang/String" "COMPACT_STRINGS" "Z", Cmp3.tab, CodL.tab, .laysFinal "java/lang/String" "java/lang/String" "value" "[B", .fieldLink "java/lang/String" 9 "java/lang/String" "value" "[B", .laysFinal "java/lang/String" "java/lang/String" "coder" "B", .fieldLink "java/lang/String" 15 "java/lang/String" "coder" "B"] ++ objW "java/lang/String" 1 ++ staticW "java/lang/String" 177 Cmp3.yN ++ staticW "java/lang/String" 47 CodL.yN
def tab : Cond := tabOf yN yB 6 none site
def P (a : Addr) (D : Cell) (fV fC : Field) (b : Addr) (A : Cell) (z : Int32) (o len : Nat) (args : Array Value) (s : State) : Prop := args = #[.ref a, .ref b, .int (Int32.ofNat o), .int (Int32.ofNat len), .null] ∧ Blank "java/lang/String" a D s ∧ Found "java/lang/String" "value" "[B" fV s ∧ Found "java/lang/String" "coder" "B" fC s ∧ Ch b A s ∧ StaticIs s "java/lang/String" "COMPACT_STRINGS" "Z" (.int z) ∧ ¬ z = 0 ∧ 0 < len ∧ o + len ≤ A.slots.size ∧ len ≤ 536870912 ∧ ∀ i, i < len → ¬ 255 < cv A (o + i)
def E (a : Addr) (D : Cell) (fV fC : Field) (A : Cell) (o len : Nat) (r : Option Value) (s u : State) : Prop := Got a D fV fC A o len r s u
/-- len > 0, no char of the range above 255: a Latin-1 String of their low bytes -/
theorem law (l : Launch) (a : Addr) (D : Cell) (fV fC : Field) (b : Addr) (A : Cell) (z : Int32) (o len : Nat) : Law l yN 5 4 2 35 yB 6 none site (P a D fV fC b A z o len) (E a D fV fC A o len) [⟨a, fC.slot⟩, ⟨a, fV.slot⟩] 1 len := by
  refine Law.of_walk (plainFor_of_name (by decide +kernel)) (by decide +kernel) (by decide +kernel) (by decide) (fun _ _ h => by rw [h.1]; rfl) (fun _ U U' hal hh h => ⟨h.1, h.2.1.mv hal hh, h.2.2.1.al hal, h.2.2.2.1.al hal, h.2.2.2.2.1.mv hal hh, h.2.2.2.2.2.1.there hal hh, h.2.2.2.2.2.2⟩) (fun r U U' V V' h1 hal h2 h => Got.mv r U U' V V' h1 hal h2 h) ?_
  intro p e s m args below meth c s₁ X0 hexec hbytes hml hret hlk hnm hown hh0 W hP
  obtain ⟨rfl, hB, f1, f2, hA, s1, hz, l0, l1, l2, hp⟩ := hP
  have a31 := hA.1.2.2.2
  have c1 : Steps p.tables e below (s₁.setTop (entryFrame m #[.ref a, .ref b, .int (Int32.ofNat o), .int (Int32.ofNat len), .null] 6)) (s₁.setTop (mkF m 0 #[.val (.ref a), .val (.ref b), .val (.int (Int32.ofNat o)), .val (.int (Int32.ofNat len)), .val .null, .unset] [])) := entry rfl
  have c2 : Steps p.tables e below (s₁.setTop (entryFrame m #[.ref a, .ref b, .int (Int32.ofNat o), .int (Int32.ofNat len), .null] 6)) (s₁.setTop (mkF m 1 #[.val (.ref a), .val (.ref b), .val (.int (Int32.ofNat o)), .val (.int (Int32.ofNat len)), .val .null, .unset] [.ref a])) := c1.trans (by
    refine XS.aloadN X0.here hexec rfl (hb hbytes d0) rfl rfl ?_
    exact Steps.refl _)
  obtain ⟨T3, X3, q3, st3⟩ := X0.oinit hexec hown (wks W (objW "java/lang/String" 1)) (g := (mkF m 1 #[.val (.ref a), .val (.ref b), .val (.int (Int32.ofNat o)), .val (.int (Int32.ofNat len)), .val .null, .unset] [.ref a])) rfl (by rw [hml]; rfl) (rest := []) rfl (hb hbytes d1) (W := 0) (by show 2 * 0 + 0 ≤ _; decide) (Nat.le_of_ble_eq_true rfl) (Nat.le_of_ble_eq_true rfl)
  have hh3 := q3.trans hh0
  have c4 : Steps p.tables e below (s₁.setTop (entryFrame m #[.ref a, .ref b, .int (Int32.ofNat o), .int (Int32.ofNat len), .null] 6)) (T3.setTop (mkF m 27 #[.val (.ref a), .val (.ref b), .val (.int (Int32.ofNat o)), .val (.int (Int32.ofNat len)), .val .null, .unset] [])) := (c2.trans (st3 _ (Steps.refl _))).trans (by
    refine XS.iloadN X3.here hexec rfl (hb hbytes d4) rfl ?_
    refine XS.ifYes X3.here hexec rfl (pc0 := 5) rfl (hb hbytes d5) rfl (i0_ne_t (nz32 (by omega) l0)) (by decide) rfl ?_
    exact Steps.refl _)
  obtain ⟨T5, X5, q5, st5⟩ := X3.sget hexec hown (wk W (.fieldLink "java/lang/String" 38 "java/lang/String" "COMPACT_STRINGS" "Z")) s1 (fun _ _ h => by rw [hh3]; exact h) (g := (mkF m 27 #[.val (.ref a), .val (.ref b), .val (.int (Int32.ofNat o)), .val (.int (Int32.ofNat len)), .val .null, .unset] [])) rfl (hb hbytes d27)
  have hh5 := q5.trans hh3
  have c6 : Steps p.tables e below (s₁.setTop (entryFrame m #[.ref a, .ref b, .int (Int32.ofNat o), .int (Int32.ofNat len), .null] 6)) (T5.setTop (mkF m 30 #[.val (.ref a), .val (.ref b), .val (.int (Int32.ofNat o)), .val (.int (Int32.ofNat len)), .val .null, .unset] [.int z])) := c4.trans (st5 _ (Steps.refl _))
  have c7 : Steps p.tables e below (s₁.setTop (entryFrame m #[.ref a, .ref b, .int (Int32.ofNat o), .int (Int32.ofNat len), .null] 6)) (T5.setTop (mkF m 36 #[.val (.ref a), .val (.ref b), .val (.int (Int32.ofNat o)), .val (.int (Int32.ofNat len)), .val .null, .unset] [.int (Int32.ofNat len), .int (Int32.ofNat o), .ref b])) := c6.trans (by
    refine XS.ifNo X5.here hexec rfl (hb hbytes d30) rfl (i0_eq_f hz) ?_
    refine XS.aloadN X5.here hexec rfl (hb hbytes d33) rfl rfl ?_
    refine XS.iloadN X5.here hexec rfl (hb hbytes d34) rfl ?_
    refine XS.iloadN X5.here hexec rfl (hb hbytes d35) rfl ?_
    exact Steps.refl _)
  obtain ⟨v8, T8, X8, E8, g8⟩ := X5.callS hexec (Cmp3.law l b A o len) hown (wks W (staticW "java/lang/String" 177 Cmp3.yN)) (wk W Cmp3.tab) (W := 0) (Nat.le_of_ble_eq_true rfl) (Nat.le_of_ble_eq_true rfl) (Nat.le_refl _) (by show 0 + len ≤ len; omega) (g := (mkF m 36 #[.val (.ref a), .val (.ref b), .val (.int (Int32.ofNat o)), .val (.int (Int32.ofNat len)), .val .null, .unset] [.int (Int32.ofNat len), .int (Int32.ofNat o), .ref b])) rfl (by rw [hml]; rfl) c7 (argsL := [.ref b, .int (Int32.ofNat o), .int (Int32.ofNat len)]) (rest := []) rfl rfl (by show 2 * 0 + 0 ≤ _; decide) (hb hbytes d36) (⟨rfl, hA.mv X5.warmed.alike hh5, l1, l2, hp⟩)
  obtain ⟨e8, z8⟩ := E8
  obtain ⟨rfl, N, n1, n2, n3, n4, n5, n6⟩ := NewArr.mv _ T5 s _ _ hh5.symm (Vm.Alike.refl _) rfl e8
  rw [hh5] at z8
  have hB1 := hB.keep X8.warmed.alike (n6 _ _ hB.1)
  have hne : s.heap.size ≠ a := (Nat.ne_of_lt (Array.getElem?_eq_some_iff.mp hB.1).1).symm
  have c9 : Steps p.tables e below (s₁.setTop (entryFrame m #[.ref a, .ref b, .int (Int32.ofNat o), .int (Int32.ofNat len), .null] 6)) (T8.setTop (mkF m 39 #[.val (.ref a), .val (.ref b), .val (.int (Int32.ofNat o)), .val (.int (Int32.ofNat len)), .val .null, .unset] [.ref s.heap.size])) := g8
  have c10 : Steps p.tables e below (s₁.setTop (entryFrame m #[.ref a, .ref b, .int (Int32.ofNat o), .int (Int32.ofNat len), .null] 6)) (T8.setTop (mkF m 45 #[.val (.ref a), .val (.ref b), .val (.int (Int32.ofNat o)), .val (.int (Int32.ofNat len)), .val .null, .val (.ref s.heap.size)] [.int (Int32.ofNat N.slots.size), .ref s.heap.size, .ref a])) := by
    have hc : Steps p.tables e below (s₁.setTop (entryFrame m #[.ref a, .ref b, .int (Int32.ofNat o), .int (Int32.ofNat len), .null] 6)) (T8.setTop (mkF m 45 #[.val (.ref a), .val (.ref b), .val (.int (Int32.ofNat o)), .val (.int (Int32.ofNat len)), .val .null, .val (.ref s.heap.size)] [.int (Int32.ofNat len), .ref s.heap.size, .ref a])) := c9.trans (by
      refine XS.astore X8.here hexec rfl (hb hbytes d39) rfl rfl rfl ?_
      refine XS.aloadN X8.here hexec rfl (hb hbytes d41) rfl rfl ?_
      refine XS.aload X8.here hexec rfl (hb hbytes d42) rfl rfl ?_
      refine XS.iloadN X8.here hexec rfl (hb hbytes d44) rfl ?_
      exact Steps.refl _)
    rw [n4]; exact hc
  obtain ⟨v11, T11, X11, E11, g11⟩ := X8.callS hexec (CodL.law l s.heap.size N) hown (wks W (staticW "java/lang/String" 47 CodL.yN)) (wk W CodL.tab) (W := 1) (Nat.le_of_ble_eq_true rfl) (Nat.le_of_ble_eq_true rfl) (Nat.le_refl _) (by show 0 + len + 0 ≤ len; omega) (g := (mkF m 45 #[.val (.ref a), .val (.ref b), .val (.int (Int32.ofNat o)), .val (.int (Int32.ofNat len)), .val .null, .val (.ref s.heap.size)] [.int (Int32.ofNat N.slots.size), .ref s.heap.size, .ref a])) rfl (by rw [hml]; rfl) c10 (argsL := [.ref s.heap.size, .int (Int32.ofNat N.slots.size)]) (rest := [.ref a]) rfl rfl (by show 2 * 0 + (1 + 0) ≤ _; decide) (hb hbytes d45) (⟨rfl, n1⟩)
  obtain ⟨rfl, q11⟩ := E11
  have hB11 := hB1.mv (X8.warmed.alike.symm.trans X11.warmed.alike) q11
  have c12 : Steps p.tables e below (s₁.setTop (entryFrame m #[.ref a, .ref b, .int (Int32.ofNat o), .int (Int32.ofNat len), .null] 6)) (T11.setTop (mkF m 48 #[.val (.ref a), .val (.ref b), .val (.int (Int32.ofNat o)), .val (.int (Int32.ofNat len)), .val .null, .val (.ref s.heap.size)] [.int 0, .ref a])) := g11
  obtain ⟨T13, X13, p13, bl13, sl13, st13⟩ := X11.finit hexec hown (wk W (.fieldLink "java/lang/String" 15 "java/lang/String" "coder" "B")) (Or.inr ⟨_, (wk W (.laysFinal "java/lang/String" "java/lang/String" "coder" "B"))⟩) (Or.inl ⟨rfl, hnm⟩) f2 (Or.inl rfl) hB11 (t := .byte) (by decide +kernel) rfl (g := (mkF m 48 #[.val (.ref a), .val (.ref b), .val (.int (Int32.ofNat o)), .val (.int (Int32.ofNat len)), .val .null, .val (.ref s.heap.size)] [.int 0, .ref a])) rfl (rest := []) rfl (hb hbytes d48)
  have c14 : Steps p.tables e below (s₁.setTop (entryFrame m #[.ref a, .ref b, .int (Int32.ofNat o), .int (Int32.ofNat len), .null] 6)) (T13.setTop (mkF m 54 #[.val (.ref a), .val (.ref b), .val (.int (Int32.ofNat o)), .val (.int (Int32.ofNat len)), .val .null, .val (.ref s.heap.size)] [.ref s.heap.size, .ref a])) := (c12.trans (st13 _ (Steps.refl _))).trans (by
    refine XS.aloadN X13.here hexec rfl (hb hbytes d51) rfl rfl ?_
    refine XS.aload X13.here hexec rfl (hb hbytes d52) rfl rfl ?_
    exact Steps.refl _)
  obtain ⟨T15, X15, p15, bl15, sl15, st15⟩ := X13.finit hexec hown (wk W (.fieldLink "java/lang/String" 9 "java/lang/String" "value" "[B")) (Or.inr ⟨_, (wk W (.laysFinal "java/lang/String" "java/lang/String" "value" "[B"))⟩) (Or.inl ⟨rfl, hnm⟩) f1 (Or.inl rfl) bl13 (t := (.array .byte)) (by decide +kernel) rfl (g := (mkF m 54 #[.val (.ref a), .val (.ref b), .val (.int (Int32.ofNat o)), .val (.int (Int32.ofNat len)), .val .null, .val (.ref s.heap.size)] [.ref s.heap.size, .ref a])) rfl (rest := []) rfl (hb hbytes d54)
  have c16 : Steps p.tables e below (s₁.setTop (entryFrame m #[.ref a, .ref b, .int (Int32.ofNat o), .int (Int32.ofNat len), .null] 6)) (T15.setTop (mkF m 57 #[.val (.ref a), .val (.ref b), .val (.int (Int32.ofNat o)), .val (.int (Int32.ofNat len)), .val .null, .val (.ref s.heap.size)] [])) := c14.trans (st15 _ (Steps.refl _))
  have ap := apart (Or.inr ⟨_, (wk W (.laysFinal "java/lang/String" "java/lang/String" "value" "[B"))⟩) (Or.inr ⟨_, (wk W (.laysFinal "java/lang/String" "java/lang/String" "coder" "B"))⟩) f1 f2 (t₁ := .array .byte) (t₂ := .byte) (by decide +kernel) (by decide +kernel) (by decide)
  have al := X8.warmed.alike.symm.trans X15.warmed.alike
  have n7 : T11.heap[s.heap.size]? = some N := by rw [q11]; exact n1.1
  exact ⟨T15, none, _, _, _, X15, by simp, rfl, by omega, (fun _ => rfl), ⟨rfl, _, N, bl15, ((Same.refl D _).set _ (by simp)).set _ (by simp), sl15, (Cell.slots_setSlot_ne _ ap).trans sl13, n1.keep al (p15.other hne (p13.other hne n7)), n2, by rw [al.findClass]; exact n3, n4, n5, fun y c h1 h2 => p15.other h1 (p13.other h1 (by rw [q11]; exact n6 y c h2)), by rw [p15.2.2, p13.2.2, q11]; exact z8⟩, fun fs hl => c16.trans (X15.returnOut hexec hret (hb hbytes d57) hl)⟩
end New4
namespace New1
def yN : MethodName := ⟨"java/lang/String", "<init>", "([C)V"⟩
abbrev yB : ByteArray := jdk_42_method_3_code
theorem d0 : decode yB 0 = .ok (.aload_n 0, 1) := by decide +kernel
theorem d1 : decode yB 1 = .ok (.aload_n 1, 1) := by decide +kernel
theorem d2 : decode yB 2 = .ok (.iconst 0, 1) := by decide +kernel
theorem d3 : decode yB 3 = .ok (.aload_n 1, 1) := by decide +kernel
theorem d4 : decode yB 4 = .ok (.arraylength, 1) := by decide +kernel
theorem d5 : decode yB 5 = .ok (.aconst_null, 1) := by decide +kernel
theorem d6 : decode yB 6 = .ok (.invokespecial 27, 3) := by decide +kernel
theorem d9 : decode yB 9 = .ok (.return_, 1) := by decide +kernel
def site : List Cond := [New4.tab] ++ initW "java/lang/String" 27 New4.yN
def tab : Cond := tabOf yN yB 2 none site
def P (a : Addr) (D : Cell) (fV fC : Field) (b : Addr) (A : Cell) (z : Int32) (args : Array Value) (s : State) : Prop := args = #[.ref a, .ref b] ∧ Blank "java/lang/String" a D s ∧ Found "java/lang/String" "value" "[B" fV s ∧ Found "java/lang/String" "coder" "B" fC s ∧ Ch b A s ∧ StaticIs s "java/lang/String" "COMPACT_STRINGS" "Z" (.int z) ∧ ¬ z = 0 ∧ 0 < A.slots.size ∧ A.slots.size ≤ 536870912 ∧ ∀ i, i < A.slots.size → ¬ 255 < cv A i
def E (a : Addr) (D : Cell) (fV fC : Field) (A : Cell) (r : Option Value) (s u : State) : Prop := Got a D fV fC A 0 A.slots.size r s u
/-- new String(chars), not empty, no char above 255: a Latin-1 String of their low bytes -/
theorem law (l : Launch) (a : Addr) (D : Cell) (fV fC : Field) (b : Addr) (A : Cell) (z : Int32) : Law l yN 2 1 3 52 yB 2 none site (P a D fV fC b A z) (E a D fV fC A) [⟨a, fC.slot⟩, ⟨a, fV.slot⟩] 1 A.slots.size := by
  refine Law.of_walk (plainFor_of_name (by decide +kernel)) (by decide +kernel) (by decide +kernel) (by decide) (fun _ _ h => by rw [h.1]; rfl) (fun _ U U' hal hh h => ⟨h.1, h.2.1.mv hal hh, h.2.2.1.al hal, h.2.2.2.1.al hal, h.2.2.2.2.1.mv hal hh, h.2.2.2.2.2.1.there hal hh, h.2.2.2.2.2.2⟩) (fun r U U' V V' h1 hal h2 h => Got.mv r U U' V V' h1 hal h2 h) ?_
  intro p e s m args below meth c s₁ X0 hexec hbytes hml hret hlk hnm hown hh0 W hP
  obtain ⟨rfl, hB, f1, f2, hA, s1, hz, l0, l2, hp⟩ := hP
  have c1 : Steps p.tables e below (s₁.setTop (entryFrame m #[.ref a, .ref b] 2)) (s₁.setTop (mkF m 0 #[.val (.ref a), .val (.ref b)] [])) := entry rfl
  have c2 : Steps p.tables e below (s₁.setTop (entryFrame m #[.ref a, .ref b] 2)) (s₁.setTop (mkF m 6 #[.val (.ref a), .val (.ref b)] [.null, .int (Int32.ofNat A.slots.size), .int 0, .ref b, .ref a])) := c1.trans (by
    refine XS.aloadN X0.here hexec rfl (hb hbytes d0) rfl rfl ?_
    refine XS.aloadN X0.here hexec rfl (hb hbytes d1) rfl rfl ?_
    refine iconstV X0.here hexec rfl 0 (hb hbytes d2) (by decide) ?_
    refine XS.aloadN X0.here hexec rfl (hb hbytes d3) rfl rfl ?_
    refine X0.alen hexec (hA.1.mv X0.warmed.alike hh0) rfl rfl (hb hbytes d4) ?_
    refine XS.aconstNull X0.here hexec rfl (hb hbytes d5) ?_
    exact Steps.refl _)
  obtain ⟨v3, T3, X3, E3, g3⟩ := X0.callN hexec (New4.law l a D fV fC b A z 0 A.slots.size) rfl hown (wks W (initW "java/lang/String" 27 New4.yN)) (W New4.tab (by simp only [site, List.mem_cons, List.mem_append, true_or, or_true])) (W := 0) (Nat.le_of_ble_eq_true rfl) (Nat.le_of_ble_eq_true rfl) (Nat.le_refl _) (by show 0 + A.slots.size ≤ A.slots.size; omega) (g := (mkF m 6 #[.val (.ref a), .val (.ref b)] [.null, .int (Int32.ofNat A.slots.size), .int (Int32.ofNat 0), .ref b, .ref a])) rfl (by rw [hml]; rfl) c2 (argsL := [.ref b, .int (Int32.ofNat 0), .int (Int32.ofNat A.slots.size), .null]) (rest := []) rfl rfl (by show 2 * 0 + 0 ≤ _; decide) (hb hbytes d6) (⟨rfl, hB.mv X0.warmed.alike hh0, f1.al X0.warmed.alike, f2.al X0.warmed.alike, hA.mv X0.warmed.alike hh0, s1.there X0.warmed.alike hh0, hz, l0, by omega, l2, fun i hi => by rw [Nat.zero_add]; exact hp i hi⟩)
  have e0 := Got.mv _ s₁ s _ _ hh0.symm (Vm.Alike.refl _) rfl E3
  obtain rfl := e0.1
  have c4 : Steps p.tables e below (s₁.setTop (entryFrame m #[.ref a, .ref b] 2)) (T3.setTop (mkF m 9 #[.val (.ref a), .val (.ref b)] [])) := g3
  exact ⟨T3, none, _, _, _, X3, by simp, rfl, by omega, (fun _ => rfl), e0, fun fs hl => c4.trans (X3.returnOut hexec hret (hb hbytes d9) hl)⟩
theorem pays {l : Launch} {R : Room} {p : Program} {e : Env} {below : List Frame} {s : State} {sargs : Array Value} {len W : Nat} (a : Addr) (D : Cell) (fV fC : Field) (b : Addr) (A : Cell) (z : Int32) (htab : tab.before sargs s = true) (hfr : 4 ≤ R.frames) (hlo : W + 65 ≤ R.locals) :
    Back l R p e below s sargs yN len W (fun A₁ a₁ => A₁.cells + 1 ≤ R.cells ∧ A₁.slots + A.slots.size ≤ R.slots ∧ P a D fV fC b A z a₁ A₁.U) (fun A₁ _ v₁ B₁ => E a D fV fC A v₁ A₁.U B₁.U ∧ B₁.locs = A₁.locs ++ [⟨a, fC.slot⟩, ⟨a, fV.slot⟩] ∧ B₁.cells = A₁.cells + 1 ∧ B₁.slots = A₁.slots + A.slots.size) :=
  (law l a D fV fC b A z).pays htab hfr (by omega)
end New1
/-- the byte, read back as charAt reads it, is the char -/
theorem lo8_mask {x : Int32} (h0 : ¬ x < 0) (h1 : ¬ 255 < x) : lo8 x &&& 255 = x := by
  have t : ∀ k : Fin 256, lo8 (Int32.ofNat k.val) &&& 255 = Int32.ofNat k.val := by decide +kernel
  rw [Int32.lt_iff_toInt_lt] at h0 h1
  have e0 : (0 : Int32).toInt = 0 := rfl
  have e1 : (255 : Int32).toInt = 255 := rfl
  obtain ⟨k, hk⟩ : ∃ k : Nat, x.toInt = k := ⟨x.toInt.toNat, by omega⟩
  have hx : x = Int32.ofNat k := Int32.toInt_inj.mp (by rw [hk, Int32.toInt_ofNat_small (by omega)])
  rw [hx]
  exact t ⟨k, by omega⟩
end StrChars
namespace StrChars.Road
open Jvm Sem ClassFile Op Lib Jvm.Stand Jvm.Free Jvm.Free.XT
open Jvm.Lib.Cold (StaticIs)
abbrev ST : String := "java/lang/String"
/-- every table word that New1's law asks, flat -/
abbrev words : List Jvm.Cond := [.code New1.yN New1.yB 2 none, .initialized ST, .methodLink ST 27 New4.yN, .instanceMethod New4.yN,
  .code New4.yN New4.yB 6 none, .fieldLink ST 38 ST "COMPACT_STRINGS" "Z", .laysFinal ST ST "value" "[B", .fieldLink ST 9 ST "value" "[B", .laysFinal ST ST "coder" "B", .fieldLink ST 15 ST "coder" "B",
  .methodLink ST 1 Lib.objectInit, .instanceMethod Lib.objectInit, .code Lib.objectInit ⟨#[0xb1]⟩ 1 none, .methodLink ST 177 Cmp3.yN, .static Cmp3.yN, .methodLink ST 47 CodL.yN, .static CodL.yN,
  .code Cmp3.yN Cmp3.yB 6 (some (.array .byte)), .initialized U16, .arrayClass .byte, .methodLink U16 115 Cmp5.yN, .static Cmp5.yN, .code Cmp5.yN Cmp5.yB 7 (some .int), .code CodL.yN CodL.yB 2 (some .byte)]
theorem tab_of {a : Array Value} {s : State} (h : ∀ w ∈ words, w.before a s = true) : New1.tab.before a s = true := by
  have h5 : Cmp5.tab.before a s = true := unparts (wk h (.code Cmp5.yN Cmp5.yB 7 (some .int))) (wks h (.initialized Cmp5.yN.cls :: Cmp5.site))
  have hc : CodL.tab.before a s = true := unparts (wk h (.code CodL.yN CodL.yB 2 (some .byte))) (wks h (.initialized CodL.yN.cls :: CodL.site))
  have q5 : ∀ w ∈ Cmp5.tab :: words, w.before a s = true := fun w hw => (List.mem_cons.mp hw).elim (fun e => e ▸ h5) (h w)
  have h3 : Cmp3.tab.before a s = true := unparts (wk q5 (.code Cmp3.yN Cmp3.yB 6 (some (.array .byte)))) (wks q5 (.initialized Cmp3.yN.cls :: Cmp3.site))
  have q3 : ∀ w ∈ Cmp3.tab :: CodL.tab :: words, w.before a s = true := fun w hw => (List.mem_cons.mp hw).elim (fun e => e ▸ h3) fun hw => (List.mem_cons.mp hw).elim (fun e => e ▸ hc) (h w)
  have h4 : New4.tab.before a s = true := unparts (wk q3 (.code New4.yN New4.yB 6 none)) (wks q3 (.initialized New4.yN.cls :: New4.site))
  have q4 : ∀ w ∈ New4.tab :: words, w.before a s = true := fun w hw => (List.mem_cons.mp hw).elim (fun e => e ▸ h4) (h w)
  exact unparts (wk q4 (.code New1.yN New1.yB 2 none)) (wks q4 (.initialized New1.yN.cls :: New1.site))
/-- the words ride from the start Z to the walk's own state -/
theorem moved {Z s : State} {a0 args : Array Value} (hZ : Z.Warmed39 s.vm) (hw : ∀ d ∈ words, d.before a0 Z = true) : ∀ d ∈ words, d.before args s = true := fun d hd => by
  have q := hw d hd
  have t : ∀ d ∈ words, d = .arrayClass .byte ∨ (d.onTables && d.keepsFace) = true := by decide +kernel
  rcases t d hd with rfl | t
  · exact RoadKit.mvA hZ q
  · exact RoadKit.mv hZ q t
/-- WHAT COMES BACK, over the tables of the start Z: h the heap at the call, h' behind it -/
def Q (Z : State) (x : Addr) (A : Cell) (h : Heap) (v : Option Value) (h' : Heap) (L : List Loc) : Prop := v = none ∧ (∀ y ∈ L, y.base = x) ∧ RoadKit.Keep h h' [x] ∧ h'.size = h.size + 1 ∧ RoadKit.Exa Z h' x ST ∧ RoadKit.Fld Z h' x ST "value" "[B" (.ref h.size) ∧ RoadKit.Fld Z h' x ST "coder" "B" (.int 0) ∧
  (∃ V : Cell, RoadKit.Arr Z h' h.size V .byte ∧ V.vm = .none ∧ Z.vm.findClass "[B" = some V.cls ∧ V.slots.size = A.slots.size ∧ ∀ j, j < A.slots.size → V.slots[j]? = some (.int (lo8 (cv A j)))) ∧
  ∀ (O n d : String) (w : Value), RoadKit.Fld Z h x O n d w → RoadKit.slotOf Z O n d ≠ RoadKit.slotOf Z ST "value" "[B" → RoadKit.slotOf Z O n d ≠ RoadKit.slotOf Z ST "coder" "B" → RoadKit.Fld Z h' x O n d w
/-- **new String(chars) AT A CALL, IN THE ROAD'S FORM**: for specialBack behind newO: x the fresh String, b the char[] with the cell A -/
theorem back {p : Program} {l : Launch} {e : Env} {R : Room} {s : State} {args : Array Value} {below : List Frame} {len W : Nat} {Z : State} {a0 : Array Value} {h : Heap} (hZ : Z.Warmed39 s.vm) (hw : ∀ d ∈ words, d.before a0 Z = true) {kI : Nat} (wi : (Jvm.Cond.instantiable ST kI).before a0 Z = true)
    {x b : Addr} {A : Cell} {z : Int32} {v0 c0 : Value} (E : RoadKit.Exa Z h x ST) (V : RoadKit.Fld Z h x ST "value" "[B" v0) (C : RoadKit.Fld Z h x ST "coder" "B" c0) (K : RoadKit.Arr Z h b A .char) (hty : Typed .char A) (S : RoadKit.Sta Z h ST "COMPACT_STRINGS" "Z" (.int z)) (hz : ¬ z = 0)
    (l0 : 0 < A.slots.size) (l2 : A.slots.size ≤ 536870912) (hp : ∀ i, i < A.slots.size → ¬ 255 < cv A i) (hfr : 4 ≤ R.frames) (hlo : W + 65 ≤ R.locals) :
    Back l R p e below s args New1.yN len W (fun P a => a = #[.ref x, .ref b] ∧ P.U.heap = h ∧ P.cells + 1 ≤ R.cells ∧ P.slots + A.slots.size ≤ R.slots)
      (fun P _ v B => ∃ L, Q Z x A h v B.U.heap L ∧ B.locs = P.locs ++ L ∧ B.cells = P.cells + 1 ∧ B.slots = P.slots + A.slots.size) := by
  intro m meth c P g ig mk a X hg hsize hdg hW hn hp'
  obtain ⟨rfl, rfl, r1, r2⟩ := hp'
  have al : Z.vm.Alike P.U.vm := hZ.alike.trans X.warmed.alike
  obtain ⟨D, cfV, kV, iV, fV, hD, gV, stV, knV, obV, asV, slV⟩ := id V
  obtain ⟨D', cfC, kC, iC, fC, hD', gC, stC, -, -, asC, slC⟩ := id C
  cases hD.symm.trans hD'
  obtain ⟨D2, kD, e1, e2, e3, e4, e5⟩ := id E
  cases hD.symm.trans e1
  obtain ⟨c2, k2, i1, i2, i3, -⟩ := Cond.instantiable_spec wi
  cases e2.symm.trans i1
  cases e3.symm.trans i2
  obtain ⟨kU, u1, u2⟩ := al.2.2 _ _ e3
  have hB : Blank ST x D P.U := ⟨hD, ⟨knV, fun q hq => by rw [hq] at obV; cases obV⟩, by rw [al.findClass]; exact e2, kU, u1, by rw [u2]; exact i3, by rw [u2]; exact e5 i3⟩
  have F1 : Found ST "value" "[B" fV P.U := ⟨SBG.found_only al ⟨cfV, kV, iV, gV⟩, stV⟩
  have F2 : Found ST "coder" "B" fC P.U := ⟨SBG.found_only al ⟨cfC, kC, iC, gC⟩, stC⟩
  have hA : Ch b A P.U := ⟨⟨K.1, State.isArrayOf_alike al K.2.1, K.2.2, by omega⟩, hty⟩
  have hS : StaticIs P.U ST "COMPACT_STRINGS" "Z" (.int z) := by
    obtain ⟨cfS, iS, kS, fS, st, cS, t1, t2, t3, t4, t5, t6, t7⟩ := S
    exact StaticIs.there (s := { Z with heap := P.U.heap }) ⟨cfS, iS, kS, fS, st, cS, t1, t2, t3, t4, t5, (fun q => by rw [q] at t6; cases t6), t7⟩ al rfl
  obtain ⟨v, B, X', ⟨⟨hv, E', V', q1, q2, q3, q4, q5, q6, q7, q8, q9, q10, q11⟩, hl, hc, hs⟩, st⟩ := New1.pays x D fV fC b A z (tab_of (moved hZ hw)) hfr hlo m meth c P g ig mk _ X hg hsize hdg hW hn ⟨r1, r2, rfl, hB, F1, F2, hA, hS, hz, l0, l2, hp⟩
  have al' : Z.vm.Alike B.U.vm := hZ.alike.trans X'.warmed.alike
  have hsz : E'.slots.size = D.slots.size := by
    obtain ⟨-, -, -, kB, w1, w2, w3⟩ := q1
    obtain ⟨kB', y1, y2⟩ := al'.2.2 _ _ e3
    rw [q2.2.1] at w1
    cases w1.symm.trans y1
    rw [w3, e5 i3, y2]
  refine ⟨v, B, X', ⟨_, ⟨hv, ?_, ⟨by omega, fun y cy hy hn' => q10 y cy (by simpa using hn') hy, fun y cy hy => ?_⟩, q11, ⟨E', _, q1.1, by rw [q2.2.1]; exact e2, by rw [q2.2.1]; exact e3, by rw [q2.1]; exact obV, fun _ => by rw [hsz]; exact e5 i3⟩,
    ⟨E', cfV, kV, iV, fV, q1.1, gV, stV, by rw [q2.1]; exact knV, by rw [q2.1]; exact obV, by rw [q2.2.1]; exact asV, q3⟩, ⟨E', cfC, kC, iC, fC, q1.1, gC, stC, by rw [q2.1]; exact knV, by rw [q2.1]; exact obV, by rw [q2.2.1]; exact asC, q4⟩,
    ⟨V', ⟨q5.1, State.isArrayOf_alike al'.symm q5.2.1, q5.2.2.1⟩, q6, by rw [← al'.findClass]; exact q7, q8, fun j hj => by have := q9 j hj; rwa [Nat.zero_add] at this⟩, fun O n d w F n1 n2 => ?_⟩, hl, hc, hs⟩, st⟩
  · intro y hy
    simp only [List.mem_cons, List.not_mem_nil, or_false] at hy
    rcases hy with rfl | rfl <;> rfl
  · by_cases q : y = x
    · subst q
      cases hD.symm.trans hy
      exact ⟨E', q1.1, q2.2.1, q2.1, hsz⟩
    · exact ⟨cy, q10 y cy q hy, rfl, rfl, rfl⟩
  · obtain ⟨D3, cf, k, i, f, g1, g2, g3, g4, g5, g6, g7⟩ := F
    cases hD.symm.trans g1
    simp only [RoadKit.slotOf, g2, gV, gC, Option.map_some, Option.getD_some] at n1 n2
    exact ⟨E', cf, k, i, f, q1.1, g2, g3, by rw [q2.1]; exact g4, by rw [q2.1]; exact g5, by rw [q2.2.1]; exact g6, by rw [q2.2.2 f.slot (by simp [n1, n2])]; exact g7⟩
end StrChars.Road
namespace StrChars.Road
open Jvm Sem ClassFile Op Lib Jvm.Stand Jvm.Free Jvm.Free.XT
/-- WHAT COMES BACK, the byte[] as a list of values -/
def QA (Z : State) (x : Addr) (zn : Int32) (cs : List Int32) (h : Heap) (v : Option Value) (h' : Heap) (L : List Loc) : Prop := v = none ∧ (∀ y ∈ L, y.base = x) ∧ RoadKit.Keep h h' [x] ∧ h'.size = h.size + 1 ∧ RoadKit.Exa Z h' x ST ∧ RoadKit.Fld Z h' x ST "value" "[B" (.ref h.size) ∧ RoadKit.Fld Z h' x ST "coder" "B" (.int 0) ∧
  (∃ kb, Z.vm.findClass "[B" = some kb ∧ RoadKit.Arv Z h' h.size kb .byte zn (cs.map fun c => .int (lo8 c)) (.int 0)) ∧
  ∀ (O n d : String) (w : Value), RoadKit.Fld Z h x O n d w → RoadKit.slotOf Z O n d ≠ RoadKit.slotOf Z ST "value" "[B" → RoadKit.slotOf Z O n d ≠ RoadKit.slotOf Z ST "coder" "B" → RoadKit.Fld Z h' x O n d w
/-- **new String(chars) AT A CALL, THE ARRAYS AS LISTS**: the char[] at b holds cs, not empty, no char above 255 -/
theorem backArv {p : Program} {l : Launch} {e : Env} {R : Room} {s : State} {args : Array Value} {below : List Frame} {len W : Nat} {Z : State} {a0 : Array Value} {h : Heap} (hZ : Z.Warmed39 s.vm) (hw : ∀ d ∈ words, d.before a0 Z = true) {kI : Nat} (wi : (Jvm.Cond.instantiable ST kI).before a0 Z = true)
    {x b : Addr} {k : ClassId} {zn z : Int32} {cs : List Int32} {dv v0 c0 : Value} (E : RoadKit.Exa Z h x ST) (V : RoadKit.Fld Z h x ST "value" "[B" v0) (C : RoadKit.Fld Z h x ST "coder" "B" c0) (K : RoadKit.Arv Z h b k .char zn (cs.map Value.int) dv) (S : RoadKit.Sta Z h ST "COMPACT_STRINGS" "Z" (.int z)) (hz : ¬ z = 0)
    (hlen : zn.toNatClampNeg = cs.length) (h0 : 0 < cs.length) (hbig : cs.length ≤ 536870912) (hall : ∀ c ∈ cs, ¬ 255 < c) (hfr : 4 ≤ R.frames) (hlo : W + 65 ≤ R.locals) :
    Back l R p e below s args New1.yN len W (fun P a => a = #[.ref x, .ref b] ∧ P.U.heap = h ∧ P.cells + 1 ≤ R.cells ∧ P.slots + cs.length ≤ R.slots)
      (fun P _ v B => ∃ L, QA Z x zn cs h v B.U.heap L ∧ B.locs = P.locs ++ L ∧ B.cells = P.cells + 1 ∧ B.slots = P.slots + cs.length) := by
  obtain ⟨A, K1, K2, K3, K4, K5, K6⟩ := K
  have e : A.slots.size = cs.length := K3.trans hlen
  have hat : ∀ (i : Nat) (hi : i < cs.length), A.slots[i]? = some (.int cs[i]) := fun i hi => by rw [K5 i (by omega)]; simp [List.getD_eq_getElem?_getD, hi]
  have hcv : ∀ (i : Nat) (hi : i < cs.length), cv A i = cs[i] := fun i hi => by unfold cv; rw [hat i hi]
  have hty : Typed .char A := fun i v hv => by
    have hi : i < A.slots.size := (Array.getElem?_eq_some_iff.mp hv).1
    have q := K5 i hi
    rw [hv] at q
    rw [Option.some.inj q]
    exact K6 i hi
  refine Back.mono (back hZ hw wi E V C K1 hty S hz (by omega) (by omega) (fun i hi => by rw [hcv i (by omega)]; exact hall _ (List.getElem_mem _)) hfr hlo) (fun P a hp => ⟨hp.1, hp.2.1, hp.2.2.1, by rw [e]; exact hp.2.2.2⟩) (fun P a v B hp hq => ?_)
  obtain ⟨L, ⟨q1, q2, q3, q4, q5, q6, q7, ⟨V', v1, v2, v3, v4, v5⟩, q9⟩, hl, hc, hs⟩ := hq
  refine ⟨L, ⟨q1, q2, q3, q4, q5, q6, q7, ⟨V'.cls, v3, V', v1, rfl, by rw [v4, e, hlen], K4, fun i hi => ?_, fun i hi => ?_⟩, q9⟩, hl, hc, by rw [hs, e]⟩
  · have hi' : i < cs.length := by omega
    rw [v5 i (by omega), hcv i hi']; simp [List.getD_eq_getElem?_getD, hi']
  · have hi' : i < cs.length := by omega
    simp only [List.getD_eq_getElem?_getD, List.getElem?_map, List.getElem?_eq_getElem hi', Option.map_some, Option.getD_some]
    exact fits_lo8 _
end StrChars.Road
namespace StrChars.Road
open Jvm Sem ClassFile Op Lib Jvm.Stand Jvm.Free Jvm.Free.XT
/-- WHAT COMES BACK, in the writer's own shape -/
def QV (Z : State) (x : Addr) (N : Int32) (bs : List Int32) (h : Heap) (n0 : Nat) (v : Option Value) (h' : Heap) (L : List Loc) : Prop := v = none ∧ RoadKit.Fr n0 L ∧ RoadKit.Keep h h' [x] ∧ RoadKit.Exa Z h' x ST ∧ RoadKit.Fld Z h' x ST "coder" "B" (.int 0) ∧
  ∃ (t : Addr) (kb : ClassId), n0 ≤ t ∧ h.size ≤ t ∧ ¬ t = x ∧ RoadKit.Fld Z h' x ST "value" "[B" (.ref t) ∧ RoadKit.Arv Z h' t kb .byte N (bs.map Value.int) (.int 0)
/-- **new String(chars) AT A CALL, FOR THE WRITER**: a char[] of n known ints, each 0 to 255 -/
theorem backV {p : Program} {l : Launch} {e : Env} {R : Room} {s : State} {args : Array Value} {below : List Frame} {len W : Nat} {Z : State} {a0 : Array Value} {h : Heap} (hZ : Z.Warmed39 s.vm) (hw : ∀ d ∈ words, d.before a0 Z = true) {kI : Nat} (wi : (Jvm.Cond.instantiable ST kI).before a0 Z = true)
    {x b : Addr} {kC : ClassId} {cs bs : List Int32} {d v0 c0 : Value} {z N : Int32} {n n0 : Nat} (hx0 : n0 ≤ x) (hh0 : n0 ≤ h.size) (E : RoadKit.Exa Z h x ST) (V : RoadKit.Fld Z h x ST "value" "[B" v0) (C : RoadKit.Fld Z h x ST "coder" "B" c0) (K : RoadKit.Arv Z h b kC .char N (cs.map Value.int) d) (S : RoadKit.Sta Z h ST "COMPACT_STRINGS" "Z" (.int z)) (hz : ¬ z = 0)
    (hn : cs.length = n) (hN : N = Int32.ofNat n) (l0 : 0 < n) (l2 : n ≤ 4000) (hp : ∀ c ∈ cs, ¬ c < 0 ∧ ¬ (255 : Int32) < c) (hb : bs = cs.map (fun c => c.toInt8.toInt32)) (hfr : 4 ≤ R.frames) (hlo : W + 65 ≤ R.locals) :
    Back l R p e below s args (⟨"java/lang/String", "<init>", "([C)V"⟩ : MethodName) len W (fun P a => a = #[.ref x, .ref b] ∧ P.U.heap = h ∧ P.cells + 1 ≤ R.cells ∧ P.slots + n ≤ R.slots)
      (fun P _ v B => ∃ L, QV Z x N bs h n0 v B.U.heap L ∧ B.locs = P.locs ++ L ∧ B.cells = P.cells + 1 ∧ B.slots = P.slots + n) := by
  subst hn hN hb
  refine Back.mono (backArv hZ hw wi E V C K S hz (n32 (by omega)) l0 (by omega) (fun c hc => (hp c hc).2) hfr hlo) (fun P a hp => hp) (fun P a v B hp hq => ?_)
  obtain ⟨L, ⟨q1, q2, q3, q4, q5, q6, q7, ⟨kb, v1, v2⟩, q9⟩, hl, hc, hs⟩ := hq
  exact ⟨L, ⟨q1, fun y hy => by rw [q2 y hy]; exact hx0, q3, q5, q7, h.size, kb, hh0, Nat.le_refl _, Nat.ne_of_gt E.lt, q6, by rw [List.map_map]; exact v2⟩, hl, hc, hs⟩
end StrChars.Road
namespace StrChars
open Jvm Sem ClassFile Op Lib Jvm.Stand Jvm.Free.XT Jvm.Free.ALB Jvm.Free.JM Jvm.Free
open Jvm.Lib.Cold (StaticIs)
def hi8 (x : Int32) : Int32 := lo8 (x >>> ((8 : Int32) &&& 31))
/-- what StringUTF16.getChar makes of two bytes -/
def pairCh (u v : Int32) : Int32 := (((u &&& 255) <<< ((0 : Int32) &&& 31)) ||| ((v &&& 255) <<< ((8 : Int32) &&& 31))).toUInt32.toUInt16.toUInt32.toInt32
theorem shr0 (c : Int32) : c >>> ((0 : Int32) &&& 31) = c := by
  have e : ((0 : Int32) &&& 31) = 0 := by decide
  rw [e]
  apply Int32.toBitVec_inj.mp
  rw [Int32.toBitVec_shiftRight]
  have e1 : ((0 : Int32).toBitVec.smod 32) = 0#32 := by decide
  rw [e1, BitVec.sshiftRight_eq']
  exact BitVec.sshiftRight_zero
theorem lo8_and (x : Int32) : (lo8 x &&& 255).toBitVec.toNat = x.toBitVec.toNat % 256 := by
  have h : (lo8 x).toBitVec = (x.toBitVec.signExtend 8).signExtend 32 := by rw [lo8, Int8.toBitVec_toInt32, Int32.toBitVec_toInt8]
  rw [Int32.toBitVec_and, BitVec.toNat_and, h]
  have e : ((x.toBitVec.signExtend 8).signExtend 32).toNat % 256 = x.toBitVec.toNat % 256 := by
    rw [BitVec.toNat_signExtend]
    have hlt := x.toBitVec.isLt
    simp only [BitVec.toNat_setWidth, BitVec.toNat_signExtend]
    split <;> split <;> omega
  rw [← e]
  exact Nat.and_two_pow_sub_one_eq_mod _ 8
theorem pair_says {c : Int32} (h0 : ¬ c < 0) (h1 : ¬ 65535 < c) : pairCh (lo8 c) (hi8 c) = c := by
  rw [Int32.lt_iff_toInt_lt] at h0 h1
  have e0 : (0 : Int32).toInt = 0 := rfl
  have e1 : (65535 : Int32).toInt = 65535 := rfl
  have hc : c.toInt = c.toBitVec.toNat := by
    have := c.toBitVec.isLt
    have e : c.toInt = c.toBitVec.toInt := rfl
    rw [e] at h0 h1
    rw [e]
    rw [BitVec.toInt_eq_toNat_cond] at h0 h1 ⊢
    split at h0 <;> split <;> omega
  have hn : c.toBitVec.toNat < 65536 := by omega
  have a1 := lo8_and c
  have a2 : (hi8 c &&& 255).toBitVec.toNat = c.toBitVec.toNat / 256 := by
    rw [hi8, lo8_and]
    have e : ((8 : Int32) &&& 31) = 8 := by decide
    rw [e, Int32.toBitVec_shiftRight]
    have e2 : ((8 : Int32).toBitVec.smod 32) = 8#32 := by decide
    rw [e2, BitVec.sshiftRight_eq', BitVec.toNat_sshiftRight_of_msb_false (by rw [BitVec.msb_eq_false_iff_two_mul_lt]; omega)]
    show c.toBitVec.toNat >>> 8 % 256 = _
    rw [Nat.shiftRight_eq_div_pow]
    omega
  unfold pairCh
  apply Int32.toBitVec_inj.mp
  apply BitVec.eq_of_toNat_eq
  have f0 : ((0 : Int32) &&& 31) = 0 := by decide
  have f8 : ((8 : Int32) &&& 31) = 8 := by decide
  rw [f0, f8]
  have g : (((lo8 c &&& 255) <<< (0 : Int32)) ||| ((hi8 c &&& 255) <<< (8 : Int32))).toBitVec.toNat = c.toBitVec.toNat := by
    rw [Int32.toBitVec_or, Int32.toBitVec_shiftLeft, Int32.toBitVec_shiftLeft]
    have s0 : ((0 : Int32).toBitVec.smod 32) = 0#32 := by decide
    have s8 : ((8 : Int32).toBitVec.smod 32) = 8#32 := by decide
    rw [s0, s8, BitVec.toNat_or]
    simp only [BitVec.shiftLeft_eq', BitVec.toNat_shiftLeft, a1, a2]
    show (c.toBitVec.toNat % 256) <<< 0 % 2 ^ 32 ||| (c.toBitVec.toNat / 256) <<< 8 % 2 ^ 32 = _
    rw [Nat.shiftLeft_zero, Nat.mod_eq_of_lt (show c.toBitVec.toNat % 256 < 2 ^ 32 by omega), Nat.mod_eq_of_lt (show (c.toBitVec.toNat / 256) <<< 8 < 2 ^ 32 by rw [Nat.shiftLeft_eq]; omega), Nat.or_comm, ← Nat.shiftLeft_add_eq_or_of_lt (by omega), Nat.shiftLeft_eq]
    omega
  show BitVec.toNat (((((lo8 c &&& 255) <<< (0 : Int32)) ||| ((hi8 c &&& 255) <<< (8 : Int32))).toBitVec.setWidth 16).setWidth 32) = _
  rw [BitVec.toNat_setWidth, BitVec.toNat_setWidth, g]
  omega
end StrChars
namespace StrChars
open Jvm Sem ClassFile Op Lib Jvm.Stand Jvm.Free.XT Jvm.Free.ALB Jvm.Free.JM Jvm.Free
open Jvm.Lib.Cold (StaticIs)
theorem shr1 {n : Nat} (h : 2 * n < 2 ^ 31) : Int32.ofNat (2 * n) >>> ((1 : Int32) &&& 31) = Int32.ofNat n := by
  have e : ((1 : Int32) &&& 31) = 1 := by decide
  rw [e]
  apply Int32.toBitVec_inj.mp
  rw [Int32.toBitVec_shiftRight]
  have e1 : ((1 : Int32).toBitVec.smod 32) = 1#32 := by decide
  have hm : (BitVec.ofNat 32 (2 * n)).toNat = 2 * n := by rw [BitVec.toNat_ofNat, Nat.mod_eq_of_lt (by omega)]
  rw [e1, BitVec.sshiftRight_eq']
  apply BitVec.eq_of_toNat_eq
  show ((BitVec.ofNat 32 (2 * n)).sshiftRight 1).toNat = (BitVec.ofNat 32 n).toNat
  rw [BitVec.toNat_sshiftRight_of_msb_false (by rw [BitVec.msb_eq_false_iff_two_mul_lt, hm]; omega), hm, BitVec.toNat_ofNat, Nat.shiftRight_eq_div_pow]
  omega
/-- the array's cell V codes the n chars f 0 .. f (n - 1) by the coder cd, as the JDK does: coder 1 just where some char is above 255 -/
def Cod (cd : Int32) (n : Nat) (f : Nat → Int32) (V : Cell) : Prop := (cd = 0 ∧ V.slots.size = n ∧ ∀ j, j < n → V.slots[j]? = some (.int (lo8 (f j))) ∧ ¬ 255 < f j) ∨ (cd = 1 ∧ V.slots.size = 2 * n ∧ (∀ j, j < n → V.slots[2 * j]? = some (.int (lo8 (f j))) ∧ V.slots[2 * j + 1]? = some (.int (hi8 (f j)))) ∧ ∃ j, j < n ∧ 255 < f j)
theorem Cod.cd {cd : Int32} {n : Nat} {f : Nat → Int32} {V : Cell} (h : Cod cd n f V) : cd = 0 ∨ cd = 1 := h.imp (fun q => q.1) fun q => q.1
theorem Cod.len {cd : Int32} {n : Nat} {f : Nat → Int32} {V : Cell} (h : Cod cd n f V) (hs : V.slots.size < 2 ^ 31) : Int32.ofNat V.slots.size >>> (cd &&& 31) = Int32.ofNat n := by
  rcases h with ⟨rfl, h, -⟩ | ⟨rfl, h, -⟩
  · rw [shr0, h]
  · rw [h, shr1 (by omega)]
/-- **x is a String of the n chars f 0 .. f (n - 1)**, Latin-1 or UTF-16; its array at t has the cell V -/
def Txt (x t : Addr) (V : Cell) (cd : Int32) (n : Nat) (f : Nat → Int32) (U : State) : Prop := Exact "java/lang/String" x U ∧ Has x "java/lang/String" "value" "[B" (.ref t) U ∧ Has x "java/lang/String" "coder" "B" (.int cd) U ∧ XT.Arr .byte t V U ∧ Cod cd n f V ∧ ∀ j, j < n → ¬ f j < 0 ∧ ¬ 65535 < f j
theorem Txt.mv {x t : Addr} {V : Cell} {cd : Int32} {n : Nat} {f : Nat → Int32} {U U' : State} (h : Txt x t V cd n f U) (hal : U.vm.Alike U'.vm) (hh : U'.heap = U.heap) : Txt x t V cd n f U' := ⟨h.1.mv hal hh, h.2.1.mv hal hh, h.2.2.1.mv hal hh, h.2.2.2.1.mv hal hh, h.2.2.2.2⟩
namespace Cdr
def yN : MethodName := ⟨"java/lang/String", "coder", "()B"⟩
abbrev yB : ByteArray := jdk_42_method_152_code
theorem d0 : decode yB 0 = .ok (.getstatic 38, 3) := by decide +kernel
theorem d3 : decode yB 3 = .ok (.ifCond (.eq) 10, 3) := by decide +kernel
theorem d6 : decode yB 6 = .ok (.aload_n 0, 1) := by decide +kernel
theorem d7 : decode yB 7 = .ok (.getfield 15, 3) := by decide +kernel
theorem d10 : decode yB 10 = .ok (.goto 4, 3) := by decide +kernel
theorem d14 : decode yB 14 = .ok (.ireturn, 1) := by decide +kernel
def site : List Cond := [.fieldLink "java/lang/String" 38 "java/lang/String" "COMPACT_STRINGS" "Z", .fieldLink "java/lang/String" 15 "java/lang/String" "coder" "B"]
def tab : Cond := tabOf yN yB 1 (some .byte) site
def P (x : Addr) (cd z : Int32) (args : Array Value) (s : State) : Prop := args = #[.ref x] ∧ Has x "java/lang/String" "coder" "B" (.int cd) s ∧ (cd = 0 ∨ cd = 1) ∧ StaticIs s "java/lang/String" "COMPACT_STRINGS" "Z" (.int z) ∧ ¬ z = 0
def E (cd : Int32) (r : Option Value) (s u : State) : Prop := XT.PureE (some (.int cd)) r s u
theorem law (l : Launch) (x : Addr) (cd z : Int32) : Law l yN 1 0 0 0 yB 1 (some .byte) site (P x cd z) (E cd) [] 0 0 := by
  refine Law.of_walk (plainFor_of_name (by decide +kernel)) (by decide +kernel) (by decide +kernel) (by decide) (fun _ _ h => by rw [h.1]; rfl) (fun _ U U' hal hh h => ⟨h.1, h.2.1.mv hal hh, h.2.2.1, h.2.2.2.1.there hal hh, h.2.2.2.2⟩) (fun r U U' V V' h1 hal h2 h => XT.PureE.mv r U U' V V' h1 hal h2 h) ?_
  intro p e s m args below meth c s₁ X0 hexec hbytes hml hret hlk hnm hown hh0 W hP
  obtain ⟨rfl, hx, hc, s1, hz⟩ := hP
  have c1 : Steps p.tables e below (s₁.setTop (entryFrame m #[.ref x] 1)) (s₁.setTop (mkF m 0 #[.val (.ref x)] [])) := entry rfl
  obtain ⟨T2, X2, q2, st2⟩ := X0.sget hexec hown (wk W (.fieldLink "java/lang/String" 38 "java/lang/String" "COMPACT_STRINGS" "Z")) s1 (fun _ _ h => by rw [hh0]; exact h) (g := (mkF m 0 #[.val (.ref x)] [])) rfl (hb hbytes d0)
  have hh2 := q2.trans hh0
  have c3 : Steps p.tables e below (s₁.setTop (entryFrame m #[.ref x] 1)) (T2.setTop (mkF m 7 #[.val (.ref x)] [.ref x])) := (c1.trans (st2 _ (Steps.refl _))).trans (by
    refine XS.ifNo X2.here hexec rfl (hb hbytes d3) rfl (i0_eq_f hz) ?_
    refine XS.aloadN X2.here hexec rfl (hb hbytes d6) rfl rfl ?_
    exact Steps.refl _)
  obtain ⟨T4, X4, q4, st4⟩ := X2.hget hexec hown (wk W (.fieldLink "java/lang/String" 15 "java/lang/String" "coder" "B")) (hx.mv X2.warmed.alike hh2) (g := (mkF m 7 #[.val (.ref x)] [.ref x])) rfl (rest := []) rfl (hb hbytes d7)
  have c5 : Steps p.tables e below (s₁.setTop (entryFrame m #[.ref x] 1)) (T4.setTop (mkF m 14 #[.val (.ref x)] [.int cd])) := (c3.trans (st4 _ (Steps.refl _))).trans (by
    refine XS.goto X4.here hexec rfl (pc0 := 10) rfl (hb hbytes d10) (by decide) rfl ?_
    exact Steps.refl _)
  exact ⟨T4, some (.int cd), _, _, _, X4, rfl, rfl, rfl, (fun h => by cases h), ⟨rfl, q4.trans hh2⟩, fun fs hl => c5.trans (X4.ireturnOut hexec hret (by rcases hc with rfl | rfl <;> rfl) (Or.inr (Or.inr (Or.inl rfl))) (hb hbytes d14) hl)⟩
end Cdr
namespace Len
def yN : MethodName := ⟨"java/lang/String", "length", "()I"⟩
abbrev yB : ByteArray := jdk_42_method_54_code
theorem d0 : decode yB 0 = .ok (.aload_n 0, 1) := by decide +kernel
theorem d1 : decode yB 1 = .ok (.getfield 9, 3) := by decide +kernel
theorem d4 : decode yB 4 = .ok (.arraylength, 1) := by decide +kernel
theorem d5 : decode yB 5 = .ok (.aload_n 0, 1) := by decide +kernel
theorem d6 : decode yB 6 = .ok (.invokevirtual 335, 3) := by decide +kernel
theorem d9 : decode yB 9 = .ok (.ishr, 1) := by decide +kernel
theorem d10 : decode yB 10 = .ok (.ireturn, 1) := by decide +kernel
def site : List Cond := [.fieldLink "java/lang/String" 9 "java/lang/String" "value" "[B", Cdr.tab] ++ virtW "java/lang/String" 335 "java/lang/String" Cdr.yN Cdr.yN
def tab : Cond := tabOf yN yB 1 (some .int) site
def P (x t : Addr) (V : Cell) (cd : Int32) (n : Nat) (f : Nat → Int32) (z : Int32) (args : Array Value) (s : State) : Prop := args = #[.ref x] ∧ Txt x t V cd n f s ∧ StaticIs s "java/lang/String" "COMPACT_STRINGS" "Z" (.int z) ∧ ¬ z = 0
def E (n : Nat) (r : Option Value) (s u : State) : Prop := XT.PureE (some (.int (Int32.ofNat n))) r s u
/-- length() of a String of n chars, in either coding -/
theorem law (l : Launch) (x t : Addr) (V : Cell) (cd : Int32) (n : Nat) (f : Nat → Int32) (z : Int32) : Law l yN 1 0 1 13 yB 1 (some .int) site (P x t V cd n f z) (E n) [] 0 0 := by
  refine Law.of_walk (plainFor_of_name (by decide +kernel)) (by decide +kernel) (by decide +kernel) (by decide) (fun _ _ h => by rw [h.1]; rfl) (fun _ U U' hal hh h => ⟨h.1, h.2.1.mv hal hh, h.2.2.1.there hal hh, h.2.2.2⟩) (fun r U U' V V' h1 hal h2 h => XT.PureE.mv r U U' V V' h1 hal h2 h) ?_
  intro p e s m args below meth c s₁ X0 hexec hbytes hml hret hlk hnm hown hh0 W hP
  obtain ⟨rfl, hx, s1, hz⟩ := hP
  have v31 := hx.2.2.2.1.2.2.2
  have c1 : Steps p.tables e below (s₁.setTop (entryFrame m #[.ref x] 1)) (s₁.setTop (mkF m 1 #[.val (.ref x)] [.ref x])) := Steps.trans (entry rfl) (by
    show Steps p.tables e below (s₁.setTop (mkF m 0 #[.val (.ref x)] [])) _
    refine XS.aloadN X0.here hexec rfl (hb hbytes d0) rfl rfl ?_
    exact Steps.refl _)
  obtain ⟨T2, X2, q2, st2⟩ := X0.hget hexec hown (wk W (.fieldLink "java/lang/String" 9 "java/lang/String" "value" "[B")) (hx.mv X0.warmed.alike hh0).2.1 (g := (mkF m 1 #[.val (.ref x)] [.ref x])) rfl (rest := []) rfl (hb hbytes d1)
  have hh2 := q2.trans hh0
  have hx2 := hx.mv X2.warmed.alike hh2
  have c3 : Steps p.tables e below (s₁.setTop (entryFrame m #[.ref x] 1)) (T2.setTop (mkF m 6 #[.val (.ref x)] [.ref x, .int (Int32.ofNat V.slots.size)])) := (c1.trans (st2 _ (Steps.refl _))).trans (by
    refine X2.alen hexec hx2.2.2.2.1 rfl rfl (hb hbytes d4) ?_
    refine XS.aloadN X2.here hexec rfl (hb hbytes d5) rfl rfl ?_
    exact Steps.refl _)
  obtain ⟨v4, T4, X4, E4, g4⟩ := X2.callV hexec (Cdr.law l x cd z) hown (wks W (virtW "java/lang/String" 335 "java/lang/String" Cdr.yN Cdr.yN)) rfl (by decide) (wk W Cdr.tab) (W := 1) (Nat.le_of_ble_eq_true rfl) (Nat.le_of_ble_eq_true rfl) (Nat.le_refl _) (Nat.le_refl _) (hx2.1.fc X2.warmed.alike) hx2.1.is (g := (mkF m 6 #[.val (.ref x)] [.ref x, .int (Int32.ofNat V.slots.size)])) rfl (by rw [hml]; rfl) c3 (argsL := []) (rest := [.int (Int32.ofNat V.slots.size)]) rfl rfl (by show 2 * 0 + (1 + 0) ≤ _; decide) (hb hbytes d6) (⟨rfl, hx2.2.2.1, hx.2.2.2.2.1.cd, s1.there X2.warmed.alike hh2, hz⟩)
  obtain ⟨rfl, q4⟩ := E4
  have c5 : Steps p.tables e below (s₁.setTop (entryFrame m #[.ref x] 1)) (T4.setTop (mkF m 10 #[.val (.ref x)] [.int (Int32.ofNat V.slots.size >>> (cd &&& 31))])) := Steps.trans g4 (by
    refine ishr X4.here hexec rfl (hb hbytes d9) rfl ?_
    exact Steps.refl _)
  rw [hx.2.2.2.2.1.len v31] at c5
  exact ⟨T4, some (.int (Int32.ofNat n)), _, _, _, X4, rfl, rfl, rfl, (fun h => by cases h), ⟨rfl, q4.trans hh2⟩, fun fs hl => c5.trans (X4.ireturnOut hexec hret rfl (Or.inl rfl) (hb hbytes d10) hl)⟩
theorem pays {l : Launch} {R : Room} {p : Program} {e : Env} {below : List Frame} {s : State} {sargs : Array Value} {len W : Nat} (x t : Addr) (V : Cell) (cd : Int32) (n : Nat) (f : Nat → Int32) (z : Int32) (htab : tab.before sargs s = true) (hfr : 2 ≤ R.frames) (hlo : W + 25 ≤ R.locals) :
    Back l R p e below s sargs yN len W (fun A₁ a₁ => A₁.cells + 0 ≤ R.cells ∧ A₁.slots + 0 ≤ R.slots ∧ P x t V cd n f z a₁ A₁.U) (fun A₁ _ v₁ B₁ => E n v₁ A₁.U B₁.U ∧ B₁.locs = A₁.locs ++ [] ∧ B₁.cells = A₁.cells + 0 ∧ B₁.slots = A₁.slots + 0) :=
  (law l x t V cd n f z).pays htab hfr (by omega)
end Len
end StrChars
namespace StrChars.Road
open Jvm Sem ClassFile Op Lib Jvm.Stand Jvm.Free Jvm.Free.XT
open Jvm.Lib.Cold (StaticIs)
theorem consq {a : Array Value} {s : State} {c : Jvm.Cond} {L : List Jvm.Cond} (h0 : c.before a s = true) (h : ∀ w ∈ L, w.before a s = true) : ∀ w ∈ c :: L, w.before a s = true := fun w hw => (List.mem_cons.mp hw).elim (fun e => e ▸ h0) (h w)
/-- the words of String.length(), either coding -/
abbrev wordsLen : List Jvm.Cond := [.code Len.yN Len.yB 1 (some .int), .initialized ST, .fieldLink ST 9 ST "value" "[B", .fieldLink ST 38 ST "COMPACT_STRINGS" "Z", .fieldLink ST 15 ST "coder" "B", .code Cdr.yN Cdr.yB 1 (some .byte), .methodLink ST 335 Cdr.yN, .declares Cdr.yN, .selects ST Cdr.yN Cdr.yN, .instanceMethod Cdr.yN]
theorem tabLen_of {a : Array Value} {s : State} (h : ∀ w ∈ wordsLen, w.before a s = true) : Len.tab.before a s = true := by
  have hc : Cdr.tab.before a s = true := unparts (wk h (.code Cdr.yN Cdr.yB 1 (some .byte))) (wks h (.initialized Cdr.yN.cls :: Cdr.site))
  have q := consq hc h
  exact unparts (wk q (.code Len.yN Len.yB 1 (some .int))) (wks q (.initialized Len.yN.cls :: Len.site))
theorem movedLen {Z s : State} {a0 args : Array Value} (hZ : Z.Warmed39 s.vm) (hw : ∀ d ∈ wordsLen, d.before a0 Z = true) : ∀ d ∈ wordsLen, d.before args s = true := fun d hd => by
  have q := hw d hd
  have t : ∀ d ∈ wordsLen, d = .arrayClass .byte ∨ (d.onTables && d.keepsFace) = true := by decide +kernel
  rcases t d hd with rfl | t
  · exact RoadKit.mvA hZ q
  · exact RoadKit.mv hZ q t
/-- the bytes of the chars cs, low before high -/
def wideBytes : List Int32 → List Value
  | [] => []
  | c :: cs => .int (lo8 c) :: .int (hi8 c) :: wideBytes cs
theorem wide_lo (d : Value) : ∀ (cs : List Int32) (j : Nat), j < cs.length → (wideBytes cs).getD (2 * j) d = .int (lo8 (cs.getD j 0))
  | [], j, h => absurd h (Nat.not_lt_zero j)
  | c :: cs, 0, _ => rfl
  | c :: cs, j + 1, h => by
    have q := wide_lo d cs j (by simpa using h)
    rw [show 2 * (j + 1) = 2 * j + 1 + 1 from by omega]
    simpa [wideBytes] using q
theorem wide_hi (d : Value) : ∀ (cs : List Int32) (j : Nat), j < cs.length → (wideBytes cs).getD (2 * j + 1) d = .int (hi8 (cs.getD j 0))
  | [], j, h => absurd h (Nat.not_lt_zero j)
  | c :: cs, 0, _ => rfl
  | c :: cs, j + 1, h => by
    have q := wide_hi d cs j (by simpa using h)
    rw [show 2 * (j + 1) + 1 = 2 * j + 1 + 1 + 1 from by omega]
    simpa [wideBytes] using q
theorem low_at (d : Value) (cs : List Int32) (j : Nat) (h : j < cs.length) : (cs.map fun c => Value.int (lo8 c)).getD j d = .int (lo8 (cs.getD j 0)) := by
  simp [List.getD_eq_getElem?_getD, h]
/-- an array of N2 bytes vs codes the chars cs by the coder cd -/
def CodA (cs : List Int32) (cd N2 : Int32) (vs : List Value) : Prop := (cd = 0 ∧ N2 = Int32.ofNat cs.length ∧ vs = (cs.map fun c => Value.int (lo8 c)) ∧ ∀ c ∈ cs, ¬ 255 < c) ∨ (cd = 1 ∧ N2 = Int32.ofNat (2 * cs.length) ∧ vs = wideBytes cs ∧ ∃ c ∈ cs, 255 < c)
theorem CodA.cod {cs : List Int32} {cd N2 : Int32} {vs : List Value} {V : Cell} (h : CodA cs cd N2 vs) (hn : 2 * cs.length < 2 ^ 31) (hs : V.slots.size = N2.toNatClampNeg) (hv : RoadKit.Has V vs (.int 0)) : Cod cd cs.length (fun j => cs.getD j 0) V := by
  rcases h with ⟨rfl, rfl, rfl, h⟩ | ⟨rfl, rfl, rfl, c, hc, hw⟩
  · rw [n32 (by omega)] at hs
    exact Or.inl ⟨rfl, hs, fun j hj => ⟨by rw [hv j (by omega), low_at _ _ _ hj], by
      have e : cs.getD j 0 = cs[j] := by simp [List.getD_eq_getElem?_getD, hj]
      show ¬ 255 < cs.getD j 0
      rw [e]; exact h _ (List.getElem_mem _)⟩⟩
  · rw [n32 (by omega)] at hs
    obtain ⟨j, hj, rfl⟩ := List.getElem_of_mem hc
    exact Or.inr ⟨rfl, hs, fun j hj => ⟨by rw [hv _ (by omega), wide_lo _ _ _ hj], by rw [hv _ (by omega), wide_hi _ _ _ hj]⟩, j, hj, by
      have e : cs.getD j 0 = cs[j] := by simp [List.getD_eq_getElem?_getD, hj]
      show 255 < cs.getD j 0
      rw [e]; exact hw⟩
/-- an object of exactly java/lang/String, its two fields found: as the laws ask it -/
theorem strObj {Z U : State} {a0 : Array Value} {kI : Nat} (wi : (Jvm.Cond.instantiable ST kI).before a0 Z = true) (al : Z.vm.Alike U.vm) {x : Addr} {v0 c0 : Value} (E : RoadKit.Exa Z U.heap x ST) (V : RoadKit.Fld Z U.heap x ST "value" "[B" v0) (C : RoadKit.Fld Z U.heap x ST "coder" "B" c0) :
    ∃ (D : Cell) (fV fC : Field), Blank ST x D U ∧ Found ST "value" "[B" fV U ∧ Found ST "coder" "B" fC U ∧ D.slots[fV.slot]? = some v0 ∧ D.slots[fC.slot]? = some c0 ∧ RoadKit.slotOf Z ST "value" "[B" = fV.slot ∧ RoadKit.slotOf Z ST "coder" "B" = fC.slot := by
  obtain ⟨D, cfV, kV, iV, fV, hD, gV, stV, knV, obV, asV, slV⟩ := V
  obtain ⟨D', cfC, kC, iC, fC, hD', gC, stC, -, -, asC, slC⟩ := C
  cases hD.symm.trans hD'
  obtain ⟨D2, kD, e1, e2, e3, e4, e5⟩ := E
  cases hD.symm.trans e1
  obtain ⟨c2, k2, i1, i2, i3, -⟩ := Cond.instantiable_spec wi
  cases e2.symm.trans i1
  cases e3.symm.trans i2
  obtain ⟨kU, u1, u2⟩ := al.2.2 _ _ e3
  exact ⟨D, fV, fC, ⟨hD, ⟨knV, fun q hq => by rw [hq] at obV; cases obV⟩, by rw [al.findClass]; exact e2, kU, u1, by rw [u2]; exact i3, by rw [u2]; exact e5 i3⟩, ⟨SBG.found_only al ⟨cfV, kV, iV, gV⟩, stV⟩, ⟨SBG.found_only al ⟨cfC, kC, iC, gC⟩, stC⟩, slV, slC, by simp [RoadKit.slotOf, gV], by simp [RoadKit.slotOf, gC]⟩
theorem sta_is {Z U : State} (al : Z.vm.Alike U.vm) {C n d : String} {v : Value} (S : RoadKit.Sta Z U.heap C n d v) : StaticIs U C n d v := by
  obtain ⟨cfS, iS, kS, fS, st, cS, t1, t2, t3, t4, t5, t6, t7⟩ := S
  exact StaticIs.there (s := { Z with heap := U.heap }) ⟨cfS, iS, kS, fS, st, cS, t1, t2, t3, t4, t5, (fun q => by rw [q] at t6; cases t6), t7⟩ al rfl
/-- **length() OF SUCH A STRING** -/
theorem lenW {p : Program} {l : Launch} {e : Env} {R : Room} {s : State} {args : Array Value} {below : List Frame} {len W : Nat} {Z : State} {a0 : Array Value} {h : Heap} (hZ : Z.Warmed39 s.vm) (hw : ∀ d ∈ wordsLen, d.before a0 Z = true) {kI : Nat} (wi : (Jvm.Cond.instantiable ST kI).before a0 Z = true)
    {x t : Addr} {kb : ClassId} {cs : List Int32} {cd N2 z : Int32} {vs : List Value} (E : RoadKit.Exa Z h x ST) (V : RoadKit.Fld Z h x ST "value" "[B" (.ref t)) (C : RoadKit.Fld Z h x ST "coder" "B" (.int cd)) (K : RoadKit.Arv Z h t kb .byte N2 vs (.int 0)) (hc : CodA cs cd N2 vs) (hb : ∀ c ∈ cs, ¬ c < 0 ∧ ¬ (65535 : Int32) < c)
    (S : RoadKit.Sta Z h ST "COMPACT_STRINGS" "Z" (.int z)) (hz : ¬ z = 0) (l2 : cs.length ≤ 4000) (hfr : 2 ≤ R.frames) (hlo : W + 25 ≤ R.locals) :
    Back l R p e below s args (⟨"java/lang/String", "length", "()I"⟩ : MethodName) len W (fun P a => a = #[.ref x] ∧ P.U.heap = h ∧ P.cells + 0 ≤ R.cells ∧ P.slots + 0 ≤ R.slots)
      (fun P _ v B => ∃ L, (v = some (.int (Int32.ofNat cs.length)) ∧ L = [] ∧ B.U.heap = h) ∧ B.locs = P.locs ++ L ∧ B.cells = P.cells + 0 ∧ B.slots = P.slots + 0) := by
  obtain ⟨A, K1, K2, K3, K4, K5, K6⟩ := K
  have hcod := hc.cod (by omega) K3 K5
  intro m meth c P g ig mk a X hg hsize hdg hW hn hp'
  obtain ⟨rfl, rfl, r1, r2⟩ := hp'
  have al : Z.vm.Alike P.U.vm := hZ.alike.trans X.warmed.alike
  obtain ⟨D, fV, fC, hB, F1, F2, g1, g2, -, -⟩ := strObj wi al E V C
  have hx : Txt x t A cd cs.length (fun j => cs.getD j 0) P.U := ⟨⟨_, hB.2.2.1, D, hB.1, rfl, by cases q : D.vm <;> first | rfl | exact absurd q (hB.2.1.2 _)⟩, Has.of hB F1 g1, Has.of hB F2 g2, ⟨K1.1, State.isArrayOf_alike al K1.2.1, K1.2.2, by rcases hcod with ⟨-, q, -⟩ | ⟨-, q, -⟩ <;> omega⟩, hcod, fun j hj => by
    have e : cs.getD j 0 = cs[j] := by simp [List.getD_eq_getElem?_getD, hj]
    show ¬ cs.getD j 0 < 0 ∧ ¬ 65535 < cs.getD j 0
    rw [e]; exact hb _ (List.getElem_mem _)⟩
  obtain ⟨v, B, X', ⟨⟨hv, hh⟩, hl, hk, hs⟩, st⟩ := Len.pays x t A cd cs.length (fun j => cs.getD j 0) z (tabLen_of (movedLen hZ hw)) hfr hlo m meth c P g ig mk _ X hg hsize hdg hW hn ⟨r1, r2, rfl, hx, sta_is al S, hz⟩
  exact ⟨v, B, X', ⟨[], ⟨hv, rfl, hh⟩, hl, hk, hs⟩, st⟩
end StrChars.Road
namespace StrChars
open Jvm Sem ClassFile Op Lib Jvm.Stand Jvm.Free.XT Jvm.Free.ALB Jvm.Free.JM Jvm.Free
open Jvm.Lib.Cold (StaticIs)
/-- what place i of a byte[]'s cell holds -/
def yv (A : Cell) (i : Nat) : Int32 := match A.slots[i]? with | some (.int x) => x | _ => 0
theorem yv_get {a : Addr} {A : Cell} {U : State} (h : XT.Arr .byte a A U) (ht : Typed .byte A) {i : Nat} (hi : i < A.slots.size) : A.slots[i]? = some (.int (yv A i)) := by
  have e := Array.getElem?_eq_getElem hi
  have f := ht i _ e
  unfold yv; rw [e]
  generalize A.slots[i] = v at f
  cases v <;> simp [fits] at f ⊢
/-- the two arrays are equal, place for place -/
def EqC (A B : Cell) : Prop := A.slots.size = B.slots.size ∧ ∀ i, i < A.slots.size → yv A i = yv B i
/-- a boolean that says whether p -/
def Says01 (q : Prop) (r : Option Value) (s u : State) : Prop := ∃ v : Int32, r = some (.int v) ∧ u.heap = s.heap ∧ ((v = 1 ∧ q) ∨ (v = 0 ∧ ¬ q))
theorem Says01.mv {q : Prop} : ∀ r (U U' V V' : State), U'.heap = U.heap → V.vm.Alike V'.vm → V'.heap = V.heap → Says01 q r U V → Says01 q r U' V' :=
  fun r U U' V V' h1 _ h2 ⟨v, a, b, c⟩ => ⟨v, a, by rw [h1, h2]; exact b, c⟩
namespace LEq
def yN : MethodName := ⟨"java/lang/StringLatin1", "equals", "([B[B)Z"⟩
abbrev yB : ByteArray := jdk_43_method_13_code
theorem d0 : decode yB 0 = .ok (.aload_n 0, 1) := by decide +kernel
theorem d1 : decode yB 1 = .ok (.arraylength, 1) := by decide +kernel
theorem d2 : decode yB 2 = .ok (.aload_n 1, 1) := by decide +kernel
theorem d3 : decode yB 3 = .ok (.arraylength, 1) := by decide +kernel
theorem d4 : decode yB 4 = .ok (.if_icmp (.ne) 30, 3) := by decide +kernel
theorem d7 : decode yB 7 = .ok (.iconst 0, 1) := by decide +kernel
theorem d8 : decode yB 8 = .ok (.istore_n 2, 1) := by decide +kernel
theorem d9 : decode yB 9 = .ok (.iload_n 2, 1) := by decide +kernel
theorem d10 : decode yB 10 = .ok (.aload_n 0, 1) := by decide +kernel
theorem d11 : decode yB 11 = .ok (.arraylength, 1) := by decide +kernel
theorem d12 : decode yB 12 = .ok (.if_icmp (.ge) 20, 3) := by decide +kernel
theorem d15 : decode yB 15 = .ok (.aload_n 0, 1) := by decide +kernel
theorem d16 : decode yB 16 = .ok (.iload_n 2, 1) := by decide +kernel
theorem d17 : decode yB 17 = .ok (.baload, 1) := by decide +kernel
theorem d18 : decode yB 18 = .ok (.aload_n 1, 1) := by decide +kernel
theorem d19 : decode yB 19 = .ok (.iload_n 2, 1) := by decide +kernel
theorem d20 : decode yB 20 = .ok (.baload, 1) := by decide +kernel
theorem d21 : decode yB 21 = .ok (.if_icmp (.eq) 5, 3) := by decide +kernel
theorem d24 : decode yB 24 = .ok (.iconst 0, 1) := by decide +kernel
theorem d25 : decode yB 25 = .ok (.ireturn, 1) := by decide +kernel
theorem d26 : decode yB 26 = .ok (.iinc 2 1, 3) := by decide +kernel
theorem d29 : decode yB 29 = .ok (.goto (-20), 3) := by decide +kernel
theorem d32 : decode yB 32 = .ok (.iconst 1, 1) := by decide +kernel
theorem d33 : decode yB 33 = .ok (.ireturn, 1) := by decide +kernel
theorem d34 : decode yB 34 = .ok (.iconst 0, 1) := by decide +kernel
theorem d35 : decode yB 35 = .ok (.ireturn, 1) := by decide +kernel
def site : List Cond := []
def tab : Cond := tabOf yN yB 3 (some .boolean) site
def P (a : Addr) (A : Cell) (b : Addr) (B : Cell) (args : Array Value) (s : State) : Prop := args = #[.ref a, .ref b] ∧ XT.Arr .byte a A s ∧ Typed .byte A ∧ XT.Arr .byte b B s ∧ Typed .byte B
/-- whether two byte[] are equal, place for place -/
theorem law (l : Launch) (a : Addr) (A : Cell) (b : Addr) (B : Cell) : Law l yN 2 2 0 0 yB 3 (some .boolean) site (P a A b B) (Says01 (EqC A B)) [] 0 0 := by
  refine Law.of_walk (plainFor_of_name (by decide +kernel)) (by decide +kernel) (by decide +kernel) (by decide) (fun _ _ h => by rw [h.1]; rfl) (fun _ U U' hal hh h => ⟨h.1, h.2.1.mv hal hh, h.2.2.1, h.2.2.2.1.mv hal hh, h.2.2.2.2⟩) (fun r U U' V V' h1 hal h2 h => Says01.mv r U U' V V' h1 hal h2 h) ?_
  intro p e s m args below meth c s₁ X0 hexec hbytes hml hret hlk hnm hown hh0 W hP
  obtain ⟨rfl, hA, tA, hB, tB⟩ := hP
  have a31 := hA.2.2.2
  have b31 := hB.2.2.2
  have hA0 := hA.mv X0.warmed.alike hh0
  have hB0 := hB.mv X0.warmed.alike hh0
  have c1 : Steps p.tables e below (s₁.setTop (entryFrame m #[.ref a, .ref b] 3)) (s₁.setTop (mkF m 0 #[.val (.ref a), .val (.ref b), .unset] [])) := entry rfl
  have c2 : Steps p.tables e below (s₁.setTop (entryFrame m #[.ref a, .ref b] 3)) (s₁.setTop (mkF m 4 #[.val (.ref a), .val (.ref b), .unset] [.int (Int32.ofNat B.slots.size), .int (Int32.ofNat A.slots.size)])) := c1.trans (by
    refine XS.aloadN X0.here hexec rfl (hb hbytes d0) rfl rfl ?_
    refine X0.alen hexec hA0 rfl rfl (hb hbytes d1) ?_
    refine XS.aloadN X0.here hexec rfl (hb hbytes d2) rfl rfl ?_
    refine X0.alen hexec hB0 rfl rfl (hb hbytes d3) ?_
    exact Steps.refl _)
  by_cases hs : A.slots.size = B.slots.size
  · have c3 : Steps p.tables e below (s₁.setTop (entryFrame m #[.ref a, .ref b] 3)) (s₁.setTop (mkF m 9 #[.val (.ref a), .val (.ref b), .val (.int 0)] [])) := c2.trans (by
      refine XS.icmpNo X0.here hexec rfl (hb hbytes d4) rfl (ii_ne_f (by rw [hs])) ?_
      refine iconstV X0.here hexec rfl 0 (hb hbytes d7) (by decide) ?_
      refine XS.istoreN X0.here hexec rfl (hb hbytes d8) rfl rfl ?_
      exact Steps.refl _)
    have loop : ∀ (r i : Nat), i + r = A.slots.size → (∀ j, j < i → yv A j = yv B j) → Steps p.tables e below (s₁.setTop (entryFrame m #[.ref a, .ref b] 3)) (s₁.setTop (mkF m 9 #[.val (.ref a), .val (.ref b), .val (.int (Int32.ofNat i))] [])) → ∃ (pc : Nat) (Ls : Array Slot) (v : Int32), (pc = 25 ∨ pc = 33) ∧ ((v = 1 ∧ EqC A B) ∨ (v = 0 ∧ ¬ EqC A B)) ∧ Steps p.tables e below (s₁.setTop (entryFrame m #[.ref a, .ref b] 3)) (s₁.setTop (mkF m pc Ls [.int v])) := by
      intro r
      induction r with
      | zero =>
        intro i hi he cl
        exact ⟨33, _, 1, Or.inr rfl, Or.inl ⟨rfl, hs, fun j hj => he j (by omega)⟩, cl.trans (by
          refine XS.iloadN X0.here hexec rfl (hb hbytes d9) rfl ?_
          refine XS.aloadN X0.here hexec rfl (hb hbytes d10) rfl rfl ?_
          refine X0.alen hexec hA0 rfl rfl (hb hbytes d11) ?_
          refine XS.icmpYes X0.here hexec rfl (pc0 := 12) rfl (hb hbytes d12) rfl (ii_ge_t (nlt32 (by omega) (by omega))) (by decide) rfl ?_
          refine iconstV X0.here hexec rfl 1 (hb hbytes d32) (by decide) ?_
          exact Steps.refl _)⟩
      | succ r ih =>
        intro i hi he cl
        have c4 : Steps p.tables e below (s₁.setTop (entryFrame m #[.ref a, .ref b] 3)) (s₁.setTop (mkF m 21 #[.val (.ref a), .val (.ref b), .val (.int (Int32.ofNat i))] [.int (yv B i), .int (yv A i)])) := cl.trans (by
          refine XS.iloadN X0.here hexec rfl (hb hbytes d9) rfl ?_
          refine XS.aloadN X0.here hexec rfl (hb hbytes d10) rfl rfl ?_
          refine X0.alen hexec hA0 rfl rfl (hb hbytes d11) ?_
          refine XS.icmpNo X0.here hexec rfl (hb hbytes d12) rfl (ii_ge_f (lt32 (by omega) (by omega))) ?_
          refine XS.aloadN X0.here hexec rfl (hb hbytes d15) rfl rfl ?_
          refine XS.iloadN X0.here hexec rfl (hb hbytes d16) rfl ?_
          refine X0.aget hexec hA0 rfl (yv_get hA tA (i := i) (by omega)) rfl rfl (hb hbytes d17) ?_
          refine XS.aloadN X0.here hexec rfl (hb hbytes d18) rfl rfl ?_
          refine XS.iloadN X0.here hexec rfl (hb hbytes d19) rfl ?_
          refine X0.aget hexec hB0 rfl (yv_get hB tB (i := i) (by omega)) rfl rfl (hb hbytes d20) ?_
          exact Steps.refl _)
        by_cases hv : yv A i = yv B i
        · have c5 : Steps p.tables e below (s₁.setTop (entryFrame m #[.ref a, .ref b] 3)) (s₁.setTop (mkF m 9 #[.val (.ref a), .val (.ref b), .val (.int (Int32.ofNat i + 1))] [])) := c4.trans (by
            refine XS.icmpYes X0.here hexec rfl (pc0 := 21) rfl (hb hbytes d21) rfl (ii_eq_t hv) (by decide) rfl ?_
            refine iincV X0.here hexec rfl 1 (hb hbytes d26) (by decide) rfl rfl ?_
            refine XS.goto X0.here hexec rfl (pc0 := 29) rfl (hb hbytes d29) (by decide) rfl ?_
            exact Steps.refl _)
          rw [succ32] at c5
          exact ih (i + 1) (by omega) (fun j hj => by
            by_cases e : j = i
            · rw [e]; exact hv
            · exact he j (by omega)) c5
        · exact ⟨25, _, 0, Or.inl rfl, Or.inr ⟨rfl, fun q => hv (q.2 i (by omega))⟩, c4.trans (by
            refine XS.icmpNo X0.here hexec rfl (hb hbytes d21) rfl (ii_eq_f hv) ?_
            refine iconstV X0.here hexec rfl 0 (hb hbytes d24) (by decide) ?_
            exact Steps.refl _)⟩
    obtain ⟨pc, Ls, v, hpc, hv, cz⟩ := loop A.slots.size 0 (by omega) (fun j hj => absurd hj (Nat.not_lt_zero j)) c3
    have nv : narrow .boolean (.int v) = .int v := by rcases hv with ⟨rfl, -⟩ | ⟨rfl, -⟩ <;> rfl
    rcases hpc with rfl | rfl
    · exact ⟨s₁, some (.int v), _, _, _, X0, rfl, rfl, rfl, (fun h => by cases h), ⟨v, rfl, hh0, hv⟩, fun fs hl => cz.trans (X0.ireturnOut hexec hret nv (Or.inr (Or.inl rfl)) (hb hbytes d25) hl)⟩
    · exact ⟨s₁, some (.int v), _, _, _, X0, rfl, rfl, rfl, (fun h => by cases h), ⟨v, rfl, hh0, hv⟩, fun fs hl => cz.trans (X0.ireturnOut hexec hret nv (Or.inr (Or.inl rfl)) (hb hbytes d33) hl)⟩
  · have c3 : Steps p.tables e below (s₁.setTop (entryFrame m #[.ref a, .ref b] 3)) (s₁.setTop (mkF m 35 #[.val (.ref a), .val (.ref b), .unset] [.int 0])) := c2.trans (by
      refine XS.icmpYes X0.here hexec rfl (pc0 := 4) rfl (hb hbytes d4) rfl (ii_ne_t (ne32 a31 b31 hs)) (by decide) rfl ?_
      refine iconstV X0.here hexec rfl 0 (hb hbytes d34) (by decide) ?_
      exact Steps.refl _)
    exact ⟨s₁, some (.int 0), _, _, _, X0, rfl, rfl, rfl, (fun h => by cases h), ⟨0, rfl, hh0, Or.inr ⟨rfl, fun q => hs q.1⟩⟩, fun fs hl => c3.trans (X0.ireturnOut hexec hret rfl (Or.inr (Or.inl rfl)) (hb hbytes d35) hl)⟩
end LEq
theorem Cod.ty {cd : Int32} {n : Nat} {f : Nat → Int32} {V : Cell} (h : Cod cd n f V) : Typed .byte V := fun i v hv => by
  have hi : i < V.slots.size := (Array.getElem?_eq_some_iff.mp hv).1
  rcases h with ⟨-, k1, k2⟩ | ⟨-, k1, k2, -⟩
  · rw [(k2 i (by omega)).1] at hv; cases hv; exact fits_lo8 _
  · rcases Nat.mod_two_eq_zero_or_one i with e | e
    · obtain ⟨j, rfl⟩ : ∃ j, i = 2 * j := ⟨i / 2, by omega⟩
      rw [(k2 j (by omega)).1] at hv; cases hv; exact fits_lo8 _
    · obtain ⟨j, rfl⟩ : ∃ j, i = 2 * j + 1 := ⟨i / 2, by omega⟩
      rw [(k2 j (by omega)).2] at hv; cases hv; exact fits_lo8 _
/-- the same text -/
def SameT (n : Nat) (f : Nat → Int32) (k : Nat) (g : Nat → Int32) : Prop := n = k ∧ ∀ j, j < n → f j = g j
theorem lo8_inj {x y : Int32} (h0 : ¬ x < 0) (h1 : ¬ 255 < x) (k0 : ¬ y < 0) (k1 : ¬ 255 < y) (h : lo8 x = lo8 y) : x = y := by
  rw [← lo8_mask h0 h1, ← lo8_mask k0 k1, h]
/-- arrays coded by one coder are equal just where the texts are -/
theorem Cod.eqv {cd : Int32} {n k : Nat} {f g : Nat → Int32} {V V' : Cell} (h : Cod cd n f V) (h' : Cod cd k g V') (hf : ∀ j, j < n → ¬ f j < 0 ∧ ¬ 65535 < f j) (hg : ∀ j, j < k → ¬ g j < 0 ∧ ¬ 65535 < g j) : EqC V V' ↔ SameT n f k g := by
  have yvv : ∀ {W : Cell} {i : Nat} {x : Int32}, W.slots[i]? = some (.int x) → yv W i = x := fun q => by unfold yv; rw [q]
  rcases h with ⟨rfl, k1, k2⟩ | ⟨rfl, k1, k2, -⟩
  · rcases h' with ⟨-, m1, m2⟩ | ⟨e, -⟩
    · constructor
      · rintro ⟨e1, e2⟩
        refine ⟨by omega, fun j hj => ?_⟩
        have q := e2 j (by omega)
        rw [yvv (k2 j hj).1, yvv (m2 j (by omega)).1] at q
        exact lo8_inj (hf j hj).1 (k2 j hj).2 (hg j (by omega)).1 (m2 j (by omega)).2 q
      · rintro ⟨rfl, e2⟩
        refine ⟨by omega, fun j hj => ?_⟩
        rw [yvv (k2 j (by omega)).1, yvv (m2 j (by omega)).1, e2 j (by omega)]
    · exact absurd e (by decide)
  · rcases h' with ⟨e, -⟩ | ⟨-, m1, m2, -⟩
    · exact absurd e (by decide)
    · constructor
      · rintro ⟨e1, e2⟩
        refine ⟨by omega, fun j hj => ?_⟩
        have q1 := e2 (2 * j) (by omega)
        have q2 := e2 (2 * j + 1) (by omega)
        rw [yvv (k2 j hj).1, yvv (m2 j (by omega)).1] at q1
        rw [yvv (k2 j hj).2, yvv (m2 j (by omega)).2] at q2
        rw [← pair_says (hf j hj).1 (hf j hj).2, ← pair_says (hg j (by omega)).1 (hg j (by omega)).2, q1, q2]
      · rintro ⟨rfl, e2⟩
        refine ⟨by omega, fun i hi => ?_⟩
        rcases Nat.mod_two_eq_zero_or_one i with e | e
        · obtain ⟨j, rfl⟩ : ∃ j, i = 2 * j := ⟨i / 2, by omega⟩
          rw [yvv (k2 j (by omega)).1, yvv (m2 j (by omega)).1, e2 j (by omega)]
        · obtain ⟨j, rfl⟩ : ∃ j, i = 2 * j + 1 := ⟨i / 2, by omega⟩
          rw [yvv (k2 j (by omega)).2, yvv (m2 j (by omega)).2, e2 j (by omega)]
/-- two codings differ: so do the texts -/
theorem Cod.dif {cd cd' : Int32} {n k : Nat} {f g : Nat → Int32} {V V' : Cell} (h : Cod cd n f V) (h' : Cod cd' k g V') (hne : ¬ cd = cd') : ¬ SameT n f k g := by
  rintro ⟨rfl, e⟩
  rcases h with ⟨rfl, -, k2⟩ | ⟨rfl, -, -, j, hj, hw⟩
  · rcases h' with ⟨rfl, -⟩ | ⟨-, -, -, j, hj, hw⟩
    · exact hne rfl
    · exact (k2 j hj).2 (by rw [e j hj]; exact hw)
  · rcases h' with ⟨-, -, m2⟩ | ⟨rfl, -⟩
    · exact (m2 j hj).2 (by rw [← e j hj]; exact hw)
    · exact hne rfl
/-- an object of exactly C is an instance of C -/
theorem cinst {p : Program} {l : Launch} {e : Env} {R : Room} {s : State} {m : MethodId} {args : Array Value} {below : List Frame} {meth : Method} {c : Code} {T : State} {locs : List Loc} {cells slots : Nat} (X : Stand p l e R s m args below meth c T locs cells slots) (hexec : p.tables.exec = Jvm.exec) {own C : String} {index : Nat} (hown : s.vm.findClass own = some m.cls) (hlink : (Cond.classLink own index C).before args s = true) {a : Addr} (hE : Exact C a T)
    {g : JFrame} (hg : g.method = m) {rest : List Value} (hstack : g.stack = .ref a :: rest) (hdg : decode c.code g.pc = .ok (.instanceof index, 3)) :
    ∃ T', Stand p l e R s m args below meth c T' locs cells slots ∧ T'.heap = T.heap ∧ ∀ target, Steps p.tables e below (T'.setTop { g with pc := g.pc + 3, stack := .int 1 :: rest }) target → Steps p.tables e below (T.setTop g) target := by
  obtain ⟨cB, h1, D, h2, h3, h4⟩ := hE
  have h1' : s.vm.findClass C = some cB := by rw [← X.warmed.alike.findClass]; exact h1
  obtain ⟨vm', X', st⟩ := X.instanceofYes hexec hown hlink h2 h4 h1' (by rw [h3]; exact Jvm.Free.SB.assignable_self _ _) hg hstack hdg
  exact ⟨_, X', rfl, st⟩
theorem cself {p : Program} {l : Launch} {e : Env} {R : Room} {s : State} {m : MethodId} {args : Array Value} {below : List Frame} {meth : Method} {c : Code} {T : State} {locs : List Loc} {cells slots : Nat} (X : Stand p l e R s m args below meth c T locs cells slots) (hexec : p.tables.exec = Jvm.exec) {own C : String} {index : Nat} (hown : s.vm.findClass own = some m.cls) (hlink : (Cond.classLink own index C).before args s = true) {a : Addr} (hE : Exact C a T)
    {g : JFrame} (hg : g.method = m) {rest : List Value} (hstack : g.stack = .ref a :: rest) (hdg : decode c.code g.pc = .ok (.checkcast index, 3)) :
    ∃ T', Stand p l e R s m args below meth c T' locs cells slots ∧ T'.heap = T.heap ∧ ∀ target, Steps p.tables e below (T'.setTop { g with pc := g.pc + 3, stack := .ref a :: rest }) target → Steps p.tables e below (T.setTop g) target := by
  obtain ⟨cB, h1, D, h2, h3, h4⟩ := hE
  have h1' : s.vm.findClass C = some cB := by rw [← X.warmed.alike.findClass]; exact h1
  obtain ⟨vm', X', st⟩ := X.checkcastYes hexec hown hlink h2 h4 h1' (by rw [h3]; exact Jvm.Free.SB.assignable_self _ _) hg hstack hdg
  exact ⟨_, X', rfl, fun t h => st t (by rw [← hstack] at h; exact h)⟩
namespace SEq
def yN : MethodName := ⟨"java/lang/String", "equals", "(Ljava/lang/Object;)Z"⟩
abbrev yB : ByteArray := jdk_42_method_66_code
theorem d0 : decode yB 0 = .ok (.aload_n 0, 1) := by decide +kernel
theorem d1 : decode yB 1 = .ok (.aload_n 1, 1) := by decide +kernel
theorem d2 : decode yB 2 = .ok (.if_acmp (.ne) 5, 3) := by decide +kernel
theorem d5 : decode yB 5 = .ok (.iconst 1, 1) := by decide +kernel
theorem d6 : decode yB 6 = .ok (.ireturn, 1) := by decide +kernel
theorem d7 : decode yB 7 = .ok (.aload_n 1, 1) := by decide +kernel
theorem d8 : decode yB 8 = .ok (.instanceof 10, 3) := by decide +kernel
theorem d11 : decode yB 11 = .ok (.ifCond (.eq) 43, 3) := by decide +kernel
theorem d14 : decode yB 14 = .ok (.aload_n 1, 1) := by decide +kernel
theorem d15 : decode yB 15 = .ok (.checkcast 10, 3) := by decide +kernel
theorem d18 : decode yB 18 = .ok (.astore_n 2, 1) := by decide +kernel
theorem d19 : decode yB 19 = .ok (.getstatic 38, 3) := by decide +kernel
theorem d22 : decode yB 22 = .ok (.ifCond (.eq) 14, 3) := by decide +kernel
theorem d25 : decode yB 25 = .ok (.aload_n 0, 1) := by decide +kernel
theorem d26 : decode yB 26 = .ok (.getfield 15, 3) := by decide +kernel
theorem d29 : decode yB 29 = .ok (.aload_n 2, 1) := by decide +kernel
theorem d30 : decode yB 30 = .ok (.getfield 15, 3) := by decide +kernel
theorem d33 : decode yB 33 = .ok (.if_icmp (.ne) 21, 3) := by decide +kernel
theorem d36 : decode yB 36 = .ok (.aload_n 0, 1) := by decide +kernel
theorem d37 : decode yB 37 = .ok (.getfield 9, 3) := by decide +kernel
theorem d40 : decode yB 40 = .ok (.aload_n 2, 1) := by decide +kernel
theorem d41 : decode yB 41 = .ok (.getfield 9, 3) := by decide +kernel
theorem d44 : decode yB 44 = .ok (.invokestatic 541, 3) := by decide +kernel
theorem d47 : decode yB 47 = .ok (.ifCond (.eq) 7, 3) := by decide +kernel
theorem d50 : decode yB 50 = .ok (.iconst 1, 1) := by decide +kernel
theorem d51 : decode yB 51 = .ok (.goto 4, 3) := by decide +kernel
theorem d54 : decode yB 54 = .ok (.iconst 0, 1) := by decide +kernel
theorem d55 : decode yB 55 = .ok (.ireturn, 1) := by decide +kernel
def site : List Cond := [.classLink "java/lang/String" 10 "java/lang/String", .fieldLink "java/lang/String" 38 "java/lang/String" "COMPACT_STRINGS" "Z", .fieldLink "java/lang/String" 15 "java/lang/String" "coder" "B", .fieldLink "java/lang/String" 9 "java/lang/String" "value" "[B", LEq.tab] ++ staticW "java/lang/String" 541 LEq.yN
def tab : Cond := tabOf yN yB 3 (some .boolean) site
def P (x t : Addr) (V : Cell) (cd : Int32) (n : Nat) (f : Nat → Int32) (y t' : Addr) (V' : Cell) (cd' : Int32) (k : Nat) (g : Nat → Int32) (z : Int32) (args : Array Value) (s : State) : Prop := args = #[.ref x, .ref y] ∧ Txt x t V cd n f s ∧ Txt y t' V' cd' k g s ∧ StaticIs s "java/lang/String" "COMPACT_STRINGS" "Z" (.int z) ∧ ¬ z = 0
/-- equals(Object) of two Strings: whether the texts are the same -/
theorem law (l : Launch) (x t : Addr) (V : Cell) (cd : Int32) (n : Nat) (f : Nat → Int32) (y t' : Addr) (V' : Cell) (cd' : Int32) (k : Nat) (g : Nat → Int32) (z : Int32) : Law l yN 2 1 1 14 yB 3 (some .boolean) site (P x t V cd n f y t' V' cd' k g z) (Says01 (SameT n f k g)) [] 0 0 := by
  refine Law.of_walk (plainFor_of_name (by decide +kernel)) (by decide +kernel) (by decide +kernel) (by decide) (fun _ _ h => by rw [h.1]; rfl) (fun _ U U' hal hh h => ⟨h.1, h.2.1.mv hal hh, h.2.2.1.mv hal hh, h.2.2.2.1.there hal hh, h.2.2.2.2⟩) (fun r U U' V V' h1 hal h2 h => Says01.mv r U U' V V' h1 hal h2 h) ?_
  intro p e s m args below meth c s₁ X0 hexec hbytes hml hret hlk hnm hown hh0 W hP
  obtain ⟨rfl, hx, hy, s1, hz⟩ := hP
  have c1 : Steps p.tables e below (s₁.setTop (entryFrame m #[.ref x, .ref y] 3)) (s₁.setTop (mkF m 2 #[.val (.ref x), .val (.ref y), .unset] [.ref y, .ref x])) := Steps.trans (entry rfl) (by
    show Steps p.tables e below (s₁.setTop (mkF m 0 #[.val (.ref x), .val (.ref y), .unset] [])) _
    refine XS.aloadN X0.here hexec rfl (hb hbytes d0) rfl rfl ?_
    refine XS.aloadN X0.here hexec rfl (hb hbytes d1) rfl rfl ?_
    exact Steps.refl _)
  by_cases hxy : x = y
  · have c2 : Steps p.tables e below (s₁.setTop (entryFrame m #[.ref x, .ref y] 3)) (s₁.setTop (mkF m 6 #[.val (.ref x), .val (.ref y), .unset] [.int 1])) := c1.trans (by
      refine acmpNo X0.here hexec rfl (hb hbytes d2) rfl rfl rfl (by simp [acmp, hxy]) ?_
      refine iconstV X0.here hexec rfl 1 (hb hbytes d5) (by decide) ?_
      exact Steps.refl _)
    subst hxy
    have ec : cd = cd' := by
      obtain ⟨D, fd, a1, a2, a3⟩ := hx.2.2.1
      obtain ⟨D', fd', b1, b2, b3⟩ := hy.2.2.1
      cases a1.symm.trans b1
      obtain ⟨q1, q2, q3, q4⟩ := a2.1
      obtain ⟨r1, r2, r3, r4⟩ := b2.1
      cases q4.symm.trans r4
      cases a3.symm.trans b3; rfl
    have et : t = t' := by
      obtain ⟨D, fd, a1, a2, a3⟩ := hx.2.1
      obtain ⟨D', fd', b1, b2, b3⟩ := hy.2.1
      cases a1.symm.trans b1
      obtain ⟨q1, q2, q3, q4⟩ := a2.1
      obtain ⟨r1, r2, r3, r4⟩ := b2.1
      cases q4.symm.trans r4
      cases a3.symm.trans b3; rfl
    subst ec et
    have ev : V = V' := by cases hx.2.2.2.1.1.symm.trans hy.2.2.2.1.1; rfl
    subst ev
    have hs : SameT n f k g := (Cod.eqv hx.2.2.2.2.1 hy.2.2.2.2.1 hx.2.2.2.2.2 hy.2.2.2.2.2).mp ⟨rfl, fun _ _ => rfl⟩
    exact ⟨s₁, some (.int 1), _, _, _, X0, rfl, rfl, rfl, (fun h => by cases h), ⟨1, rfl, hh0, Or.inl ⟨rfl, hs⟩⟩, fun fs hl => c2.trans (X0.ireturnOut hexec hret rfl (Or.inr (Or.inl rfl)) (hb hbytes d6) hl)⟩
  · have c2 : Steps p.tables e below (s₁.setTop (entryFrame m #[.ref x, .ref y] 3)) (s₁.setTop (mkF m 8 #[.val (.ref x), .val (.ref y), .unset] [.ref y])) := c1.trans (by
      refine acmpYes X0.here hexec rfl (pc0 := 2) rfl (hb hbytes d2) rfl rfl rfl (by simp [acmp, hxy]) (by decide) rfl ?_
      refine XS.aloadN X0.here hexec rfl (hb hbytes d7) rfl rfl ?_
      exact Steps.refl _)
    obtain ⟨T3, X3, q3, st3⟩ := cinst X0 hexec hown (wk W (.classLink "java/lang/String" 10 "java/lang/String")) (hy.mv X0.warmed.alike hh0).1 (g := (mkF m 8 #[.val (.ref x), .val (.ref y), .unset] [.ref y])) rfl (rest := []) rfl (hb hbytes d8)
    have hh3 := q3.trans hh0
    have c4 : Steps p.tables e below (s₁.setTop (entryFrame m #[.ref x, .ref y] 3)) (T3.setTop (mkF m 15 #[.val (.ref x), .val (.ref y), .unset] [.ref y])) := (c2.trans (st3 _ (Steps.refl _))).trans (by
      refine XS.ifNo X3.here hexec rfl (hb hbytes d11) rfl (i0_eq_f (by decide)) ?_
      refine XS.aloadN X3.here hexec rfl (hb hbytes d14) rfl rfl ?_
      exact Steps.refl _)
    obtain ⟨T5, X5, q5, st5⟩ := cself X3 hexec hown (wk W (.classLink "java/lang/String" 10 "java/lang/String")) (hy.mv X3.warmed.alike hh3).1 (g := (mkF m 15 #[.val (.ref x), .val (.ref y), .unset] [.ref y])) rfl (rest := []) rfl (hb hbytes d15)
    have hh5 := q5.trans hh3
    have c6 : Steps p.tables e below (s₁.setTop (entryFrame m #[.ref x, .ref y] 3)) (T5.setTop (mkF m 19 #[.val (.ref x), .val (.ref y), .val (.ref y)] [])) := (c4.trans (st5 _ (Steps.refl _))).trans (by
      refine XS.astoreN X5.here hexec rfl (hb hbytes d18) rfl rfl rfl ?_
      exact Steps.refl _)
    obtain ⟨T7, X7, q7, st7⟩ := X5.sget hexec hown (wk W (.fieldLink "java/lang/String" 38 "java/lang/String" "COMPACT_STRINGS" "Z")) s1 (fun _ _ h => by rw [hh5]; exact h) (g := (mkF m 19 #[.val (.ref x), .val (.ref y), .val (.ref y)] [])) rfl (hb hbytes d19)
    have hh7 := q7.trans hh5
    have c8 : Steps p.tables e below (s₁.setTop (entryFrame m #[.ref x, .ref y] 3)) (T7.setTop (mkF m 26 #[.val (.ref x), .val (.ref y), .val (.ref y)] [.ref x])) := (c6.trans (st7 _ (Steps.refl _))).trans (by
      refine XS.ifNo X7.here hexec rfl (hb hbytes d22) rfl (i0_eq_f hz) ?_
      refine XS.aloadN X7.here hexec rfl (hb hbytes d25) rfl rfl ?_
      exact Steps.refl _)
    obtain ⟨T9, X9, q9, st9⟩ := X7.hget hexec hown (wk W (.fieldLink "java/lang/String" 15 "java/lang/String" "coder" "B")) (hx.mv X7.warmed.alike hh7).2.2.1 (g := (mkF m 26 #[.val (.ref x), .val (.ref y), .val (.ref y)] [.ref x])) rfl (rest := []) rfl (hb hbytes d26)
    have hh9 := q9.trans hh7
    have c10 : Steps p.tables e below (s₁.setTop (entryFrame m #[.ref x, .ref y] 3)) (T9.setTop (mkF m 30 #[.val (.ref x), .val (.ref y), .val (.ref y)] [.ref y, .int cd])) := (c8.trans (st9 _ (Steps.refl _))).trans (by
      refine XS.aloadN X9.here hexec rfl (hb hbytes d29) rfl rfl ?_
      exact Steps.refl _)
    obtain ⟨T11, X11, q11, st11⟩ := X9.hget hexec hown (wk W (.fieldLink "java/lang/String" 15 "java/lang/String" "coder" "B")) (hy.mv X9.warmed.alike hh9).2.2.1 (g := (mkF m 30 #[.val (.ref x), .val (.ref y), .val (.ref y)] [.ref y, .int cd])) rfl (rest := [.int cd]) rfl (hb hbytes d30)
    have hh11 := q11.trans hh9
    have c12 : Steps p.tables e below (s₁.setTop (entryFrame m #[.ref x, .ref y] 3)) (T11.setTop (mkF m 33 #[.val (.ref x), .val (.ref y), .val (.ref y)] [.int cd', .int cd])) := c10.trans (st11 _ (Steps.refl _))
    by_cases hcd : cd = cd'
    · subst hcd
      have c13 : Steps p.tables e below (s₁.setTop (entryFrame m #[.ref x, .ref y] 3)) (T11.setTop (mkF m 37 #[.val (.ref x), .val (.ref y), .val (.ref y)] [.ref x])) := c12.trans (by
        refine XS.icmpNo X11.here hexec rfl (hb hbytes d33) rfl (ii_ne_f rfl) ?_
        refine XS.aloadN X11.here hexec rfl (hb hbytes d36) rfl rfl ?_
        exact Steps.refl _)
      obtain ⟨T14, X14, q14, st14⟩ := X11.hget hexec hown (wk W (.fieldLink "java/lang/String" 9 "java/lang/String" "value" "[B")) (hx.mv X11.warmed.alike hh11).2.1 (g := (mkF m 37 #[.val (.ref x), .val (.ref y), .val (.ref y)] [.ref x])) rfl (rest := []) rfl (hb hbytes d37)
      have hh14 := q14.trans hh11
      have c15 : Steps p.tables e below (s₁.setTop (entryFrame m #[.ref x, .ref y] 3)) (T14.setTop (mkF m 41 #[.val (.ref x), .val (.ref y), .val (.ref y)] [.ref y, .ref t])) := (c13.trans (st14 _ (Steps.refl _))).trans (by
        refine XS.aloadN X14.here hexec rfl (hb hbytes d40) rfl rfl ?_
        exact Steps.refl _)
      obtain ⟨T16, X16, q16, st16⟩ := X14.hget hexec hown (wk W (.fieldLink "java/lang/String" 9 "java/lang/String" "value" "[B")) (hy.mv X14.warmed.alike hh14).2.1 (g := (mkF m 41 #[.val (.ref x), .val (.ref y), .val (.ref y)] [.ref y, .ref t])) rfl (rest := [.ref t]) rfl (hb hbytes d41)
      have hh16 := q16.trans hh14
      have c17 : Steps p.tables e below (s₁.setTop (entryFrame m #[.ref x, .ref y] 3)) (T16.setTop (mkF m 44 #[.val (.ref x), .val (.ref y), .val (.ref y)] [.ref t', .ref t])) := c15.trans (st16 _ (Steps.refl _))
      obtain ⟨v18, T18, X18, E18, g18⟩ := X16.callS hexec (LEq.law l t V t' V') hown (wks W (staticW "java/lang/String" 541 LEq.yN)) (wk W LEq.tab) (W := 0) (Nat.le_of_ble_eq_true rfl) (Nat.le_of_ble_eq_true rfl) (Nat.le_refl _) (Nat.le_refl _) (g := (mkF m 44 #[.val (.ref x), .val (.ref y), .val (.ref y)] [.ref t', .ref t])) rfl (by rw [hml]; rfl) c17 (argsL := [.ref t, .ref t']) (rest := []) rfl rfl (by show 2 * 0 + 0 ≤ _; decide) (hb hbytes d44) (⟨rfl, hx.2.2.2.1.mv X16.warmed.alike hh16, hx.2.2.2.2.1.ty, hy.2.2.2.1.mv X16.warmed.alike hh16, hy.2.2.2.2.1.ty⟩)
      obtain ⟨v, rfl, q18, hv⟩ := E18
      have iff := Cod.eqv hx.2.2.2.2.1 hy.2.2.2.2.1 hx.2.2.2.2.2 hy.2.2.2.2.2
      rcases hv with ⟨rfl, he⟩ | ⟨rfl, he⟩
      · have c19 : Steps p.tables e below (s₁.setTop (entryFrame m #[.ref x, .ref y] 3)) (T18.setTop (mkF m 55 #[.val (.ref x), .val (.ref y), .val (.ref y)] [.int 1])) := Steps.trans g18 (by
          refine XS.ifNo X18.here hexec rfl (hb hbytes d47) rfl (i0_eq_f (by decide)) ?_
          refine iconstV X18.here hexec rfl 1 (hb hbytes d50) (by decide) ?_
          refine XS.goto X18.here hexec rfl (pc0 := 51) rfl (hb hbytes d51) (by decide) rfl ?_
          exact Steps.refl _)
        exact ⟨T18, some (.int 1), _, _, _, X18, rfl, rfl, rfl, (fun h => by cases h), ⟨1, rfl, q18.trans hh16, Or.inl ⟨rfl, iff.mp he⟩⟩, fun fs hl => c19.trans (X18.ireturnOut hexec hret rfl (Or.inr (Or.inl rfl)) (hb hbytes d55) hl)⟩
      · have c19 : Steps p.tables e below (s₁.setTop (entryFrame m #[.ref x, .ref y] 3)) (T18.setTop (mkF m 55 #[.val (.ref x), .val (.ref y), .val (.ref y)] [.int 0])) := Steps.trans g18 (by
          refine XS.ifYes X18.here hexec rfl (pc0 := 47) rfl (hb hbytes d47) rfl (i0_eq_t rfl) (by decide) rfl ?_
          refine iconstV X18.here hexec rfl 0 (hb hbytes d54) (by decide) ?_
          exact Steps.refl _)
        exact ⟨T18, some (.int 0), _, _, _, X18, rfl, rfl, rfl, (fun h => by cases h), ⟨0, rfl, q18.trans hh16, Or.inr ⟨rfl, fun q => he (iff.mpr q)⟩⟩, fun fs hl => c19.trans (X18.ireturnOut hexec hret rfl (Or.inr (Or.inl rfl)) (hb hbytes d55) hl)⟩
    · have c13 : Steps p.tables e below (s₁.setTop (entryFrame m #[.ref x, .ref y] 3)) (T11.setTop (mkF m 55 #[.val (.ref x), .val (.ref y), .val (.ref y)] [.int 0])) := c12.trans (by
        refine XS.icmpYes X11.here hexec rfl (pc0 := 33) rfl (hb hbytes d33) rfl (ii_ne_t hcd) (by decide) rfl ?_
        refine iconstV X11.here hexec rfl 0 (hb hbytes d54) (by decide) ?_
        exact Steps.refl _)
      exact ⟨T11, some (.int 0), _, _, _, X11, rfl, rfl, rfl, (fun h => by cases h), ⟨0, rfl, hh11, Or.inr ⟨rfl, Cod.dif hx.2.2.2.2.1 hy.2.2.2.2.1 hcd⟩⟩, fun fs hl => c13.trans (X11.ireturnOut hexec hret rfl (Or.inr (Or.inl rfl)) (hb hbytes d55) hl)⟩
theorem pays {l : Launch} {R : Room} {p : Program} {e : Env} {below : List Frame} {s : State} {sargs : Array Value} {len W : Nat} (x t : Addr) (V : Cell) (cd : Int32) (n : Nat) (f : Nat → Int32) (y t' : Addr) (V' : Cell) (cd' : Int32) (k : Nat) (g : Nat → Int32) (z : Int32) (htab : tab.before sargs s = true) (hfr : 2 ≤ R.frames) (hlo : W + 28 ≤ R.locals) :
    Back l R p e below s sargs yN len W (fun A₁ a₁ => A₁.cells + 0 ≤ R.cells ∧ A₁.slots + 0 ≤ R.slots ∧ P x t V cd n f y t' V' cd' k g z a₁ A₁.U) (fun A₁ _ v₁ B₁ => Says01 (SameT n f k g) v₁ A₁.U B₁.U ∧ B₁.locs = A₁.locs ++ [] ∧ B₁.cells = A₁.cells + 0 ∧ B₁.slots = A₁.slots + 0) :=
  (law l x t V cd n f y t' V' cd' k g z).pays htab hfr (by omega)
end SEq
end StrChars
namespace StrChars.Road
open Jvm Sem ClassFile Op Lib Jvm.Stand Jvm.Free Jvm.Free.XT
open Jvm.Lib.Cold (StaticIs)
/-- the words of String.equals(Object) -/
abbrev wordsEq : List Jvm.Cond := [.code SEq.yN SEq.yB 3 (some .boolean), .initialized ST, .classLink ST 10 ST, .fieldLink ST 38 ST "COMPACT_STRINGS" "Z", .fieldLink ST 15 ST "coder" "B", .fieldLink ST 9 ST "value" "[B", .methodLink ST 541 LEq.yN, .static LEq.yN, .code LEq.yN LEq.yB 3 (some .boolean), .initialized "java/lang/StringLatin1"]
theorem tabEq_of {a : Array Value} {s : State} (h : ∀ w ∈ wordsEq, w.before a s = true) : SEq.tab.before a s = true := by
  have hl : LEq.tab.before a s = true := unparts (wk h (.code LEq.yN LEq.yB 3 (some .boolean))) (wks h (.initialized LEq.yN.cls :: LEq.site))
  have q := consq hl h
  exact unparts (wk q (.code SEq.yN SEq.yB 3 (some .boolean))) (wks q (.initialized SEq.yN.cls :: SEq.site))
theorem movedEq {Z s : State} {a0 args : Array Value} (hZ : Z.Warmed39 s.vm) (hw : ∀ d ∈ wordsEq, d.before a0 Z = true) : ∀ d ∈ wordsEq, d.before args s = true := fun d hd => by
  have t : ∀ d ∈ wordsEq, (d.onTables && d.keepsFace) = true := by decide +kernel
  exact RoadKit.mv hZ (hw d hd) (t d hd)
/-- the road's facts of a String, as the laws ask it -/
theorem txt_of {Z U : State} {a0 : Array Value} {kI : Nat} (wi : (Jvm.Cond.instantiable ST kI).before a0 Z = true) (al : Z.vm.Alike U.vm) {x t : Addr} {kb : ClassId} {cs : List Int32} {cd N2 : Int32} {vs : List Value} (E : RoadKit.Exa Z U.heap x ST) (V : RoadKit.Fld Z U.heap x ST "value" "[B" (.ref t)) (C : RoadKit.Fld Z U.heap x ST "coder" "B" (.int cd)) (K : RoadKit.Arv Z U.heap t kb .byte N2 vs (.int 0)) (hc : CodA cs cd N2 vs) (hb : ∀ c ∈ cs, ¬ c < 0 ∧ ¬ (65535 : Int32) < c) (l2 : cs.length ≤ 4000) :
    ∃ A, Txt x t A cd cs.length (fun j => cs.getD j 0) U := by
  obtain ⟨A, K1, K2, K3, K4, K5, K6⟩ := K
  have hcod := hc.cod (by omega) K3 K5
  obtain ⟨D, fV, fC, hB, F1, F2, g1, g2, -, -⟩ := strObj wi al E V C
  exact ⟨A, ⟨_, hB.2.2.1, D, hB.1, rfl, by cases q : D.vm <;> first | rfl | exact absurd q (hB.2.1.2 _)⟩, Has.of hB F1 g1, Has.of hB F2 g2, ⟨K1.1, State.isArrayOf_alike al K1.2.1, K1.2.2, by rcases hcod with ⟨-, q, -⟩ | ⟨-, q, -⟩ <;> omega⟩, hcod, fun j hj => by
    have e : cs.getD j 0 = cs[j] := by simp [List.getD_eq_getElem?_getD, hj]
    show ¬ cs.getD j 0 < 0 ∧ ¬ 65535 < cs.getD j 0
    rw [e]; exact hb _ (List.getElem_mem _)⟩
theorem same_list (cs ds : List Int32) : SameT cs.length (fun j => cs.getD j 0) ds.length (fun j => ds.getD j 0) ↔ cs = ds := by
  constructor
  · rintro ⟨e, q⟩
    refine List.ext_getElem e fun j h1 h2 => ?_
    have := q j h1
    simpa [List.getD_eq_getElem?_getD, h1, h2] using this
  · rintro rfl
    exact ⟨rfl, fun _ _ => rfl⟩
/-- **equals(Object) OF TWO SUCH STRINGS**: 1 just where the chars are the same -/
theorem eqW {p : Program} {l : Launch} {e : Env} {R : Room} {s : State} {args : Array Value} {below : List Frame} {len W : Nat} {Z : State} {a0 : Array Value} {h : Heap} (hZ : Z.Warmed39 s.vm) (hw : ∀ d ∈ wordsEq, d.before a0 Z = true) {kI : Nat} (wi : (Jvm.Cond.instantiable ST kI).before a0 Z = true)
    {x t : Addr} {kb : ClassId} {cs : List Int32} {cd N2 : Int32} {vs : List Value} (E : RoadKit.Exa Z h x ST) (V : RoadKit.Fld Z h x ST "value" "[B" (.ref t)) (C : RoadKit.Fld Z h x ST "coder" "B" (.int cd)) (K : RoadKit.Arv Z h t kb .byte N2 vs (.int 0)) (hc : CodA cs cd N2 vs) (hb : ∀ c ∈ cs, ¬ c < 0 ∧ ¬ (65535 : Int32) < c) (l2 : cs.length ≤ 4000)
    {y t' : Addr} {kb' : ClassId} {ds : List Int32} {cd' N2' : Int32} {vs' : List Value} (E' : RoadKit.Exa Z h y ST) (V' : RoadKit.Fld Z h y ST "value" "[B" (.ref t')) (C' : RoadKit.Fld Z h y ST "coder" "B" (.int cd')) (K' : RoadKit.Arv Z h t' kb' .byte N2' vs' (.int 0)) (hc' : CodA ds cd' N2' vs') (hb' : ∀ c ∈ ds, ¬ c < 0 ∧ ¬ (65535 : Int32) < c) (l2' : ds.length ≤ 4000)
    {z : Int32} (S : RoadKit.Sta Z h ST "COMPACT_STRINGS" "Z" (.int z)) (hz : ¬ z = 0) (hfr : 2 ≤ R.frames) (hlo : W + 28 ≤ R.locals) :
    Back l R p e below s args (⟨"java/lang/String", "equals", "(Ljava/lang/Object;)Z"⟩ : MethodName) len W (fun P a => a = #[.ref x, .ref y] ∧ P.U.heap = h ∧ P.cells + 0 ≤ R.cells ∧ P.slots + 0 ≤ R.slots)
      (fun P _ v B => ∃ L, (((v = some (.int 1) ∧ cs = ds) ∨ (v = some (.int 0) ∧ ¬ cs = ds)) ∧ L = [] ∧ B.U.heap = h) ∧ B.locs = P.locs ++ L ∧ B.cells = P.cells + 0 ∧ B.slots = P.slots + 0) := by
  intro m meth c P g ig mk a X hg hsize hdg hW hn hp'
  obtain ⟨rfl, rfl, r1, r2⟩ := hp'
  have al : Z.vm.Alike P.U.vm := hZ.alike.trans X.warmed.alike
  obtain ⟨A, hx⟩ := txt_of wi al E V C K hc hb l2
  obtain ⟨A', hy⟩ := txt_of wi al E' V' C' K' hc' hb' l2'
  obtain ⟨v, B, X', ⟨⟨w, hv, hh, hq⟩, hl, hk, hs⟩, st⟩ := SEq.pays x t A cd cs.length (fun j => cs.getD j 0) y t' A' cd' ds.length (fun j => ds.getD j 0) z (tabEq_of (movedEq hZ hw)) hfr hlo m meth c P g ig mk _ X hg hsize hdg hW hn ⟨r1, r2, rfl, hx, hy, sta_is al S, hz⟩
  refine ⟨v, B, X', ⟨[], ⟨?_, rfl, hh⟩, hl, hk, hs⟩, st⟩
  rcases hq with ⟨rfl, q⟩ | ⟨rfl, q⟩
  · exact Or.inl ⟨hv, (same_list cs ds).mp q⟩
  · exact Or.inr ⟨hv, fun e => q ((same_list cs ds).mpr e)⟩
end StrChars.Road
namespace StrChars.Road
open Jvm Sem ClassFile Op Lib Jvm.Stand Jvm.Free Jvm.Free.XT
open Jvm.Lib.Cold (StaticIs)
/-- what backV says of its String, as the contracts of this text ask it: cs's low bytes, coder 0 -/
theorem codOf {cs : List Int32} {n : Nat} (hn : cs.length = n) (hb : ∀ c ∈ cs, ¬ 255 < c) : CodA cs 0 (Int32.ofNat n) ((cs.map lo8).map Value.int) := Or.inl ⟨rfl, by rw [hn], by simp [List.map_map, Function.comp_def], hb⟩
end StrChars.Road
end Jvm.Pilot.@@N@@
namespace Jvm.Pilot.@@N@@
open Jvm Sem ClassFile Op Lib Jvm.Stand Jvm.Free Jvm.LawKit Jvm.RoadKit
section New
variable {p : Program} {l : Launch} {e : Env} {R : Room} {s : State} {m : MethodId} {args : Array Value} {below : List Frame} {meth : Method} {c : Code} {T : State} {locs : List Loc} {cells slots : Nat}
theorem retI (X : Stand p l e R s m args below meth c T locs cells slots) (hx : p.tables.exec = Jvm.exec) {pc : Nat} {Ls : Array Slot} {z : Int32} {rest : List Value} (hret : meth.sig.returnType = some .int) (hd : decode c.code pc = .ok (.ireturn, 1)) {fs : List Frame}
    (hl : ∀ (f : JFrame) (acts : List Action), f.method = m → f.locked = none → f.entered = [] → (doReturn e (T.setTop f) acts (some (.int z))).1 = T.setFrames fs) : Steps p.tables e below (T.setTop (mkF m pc Ls (.int z :: rest))) (T.setFrames fs) :=
  retOut X hx hret rfl (Or.inl ⟨rfl, Or.inl rfl, z, rfl⟩) hd hl
end New
end Jvm.Pilot.@@N@@
namespace Jvm.Pilot.@@N@@
open Jvm Jvm.ClassFile Sem Op Lib Jvm.Free Jvm.Stand Jvm.LawKit Jvm.RoadKit Bundle Jvm.Pilot.@@N@@.Jvm.D
theorem S.iload {tb : Tables} [Ours tb] {e : Env} {below : List Frame} {T t : State} {m : MethodId} {c : Code} {pc : Nat} {L : Array Slot} {S : List Value} (h : At T m c below) (hx : tb.exec = Jvm.exec) {k : Nat} {v : Int32} (hd : decode c.code pc = .ok (.iload k, 2)) (hl : L[k]? = some (.val (.int v))) (hr : Steps tb e below (T.setTop (mkF m (pc + 2) L (.int v :: S))) t) : Steps tb e below (T.setTop (mkF m pc L (S))) t := XS.iload h hx rfl hd hl hr
theorem S.iloadN {tb : Tables} [Ours tb] {e : Env} {below : List Frame} {T t : State} {m : MethodId} {c : Code} {pc : Nat} {L : Array Slot} {S : List Value} (h : At T m c below) (hx : tb.exec = Jvm.exec) {k : Fin 4} {v : Int32} (hd : decode c.code pc = .ok (.iload_n k, 1)) (hl : L[k.val]? = some (.val (.int v))) (hr : Steps tb e below (T.setTop (mkF m (pc + 1) L (.int v :: S))) t) : Steps tb e below (T.setTop (mkF m pc L (S))) t := XS.iloadN h hx rfl hd hl hr
theorem S.lload {tb : Tables} [Ours tb] {e : Env} {below : List Frame} {T t : State} {m : MethodId} {c : Code} {pc : Nat} {L : Array Slot} {S : List Value} (h : At T m c below) (hx : tb.exec = Jvm.exec) {k : Nat} {v : Int64} (hd : decode c.code pc = .ok (.lload k, 2)) (hl : L[k]? = some (.val (.long v))) (hr : Steps tb e below (T.setTop (mkF m (pc + 2) L (.long v :: S))) t) : Steps tb e below (T.setTop (mkF m pc L (S))) t := XS.lload h hx rfl hd hl hr
theorem S.lloadN {tb : Tables} [Ours tb] {e : Env} {below : List Frame} {T t : State} {m : MethodId} {c : Code} {pc : Nat} {L : Array Slot} {S : List Value} (h : At T m c below) (hx : tb.exec = Jvm.exec) {k : Fin 4} {v : Int64} (hd : decode c.code pc = .ok (.lload_n k, 1)) (hl : L[k.val]? = some (.val (.long v))) (hr : Steps tb e below (T.setTop (mkF m (pc + 1) L (.long v :: S))) t) : Steps tb e below (T.setTop (mkF m pc L (S))) t := XS.lloadN h hx rfl hd hl hr
theorem S.aload {tb : Tables} [Ours tb] {e : Env} {below : List Frame} {T t : State} {m : MethodId} {c : Code} {pc : Nat} {L : Array Slot} {S : List Value} (h : At T m c below) (hx : tb.exec = Jvm.exec) {k : Nat} {v : Value} (hd : decode c.code pc = .ok (.aload k, 2)) (hl : L[k]? = some (.val v)) (hv : v.isRef = true) (hr : Steps tb e below (T.setTop (mkF m (pc + 2) L (v :: S))) t) : Steps tb e below (T.setTop (mkF m pc L (S))) t := XS.aload h hx rfl hd hl hv hr
theorem S.aloadN {tb : Tables} [Ours tb] {e : Env} {below : List Frame} {T t : State} {m : MethodId} {c : Code} {pc : Nat} {L : Array Slot} {S : List Value} (h : At T m c below) (hx : tb.exec = Jvm.exec) {k : Fin 4} {v : Value} (hd : decode c.code pc = .ok (.aload_n k, 1)) (hl : L[k.val]? = some (.val v)) (hv : v.isRef = true) (hr : Steps tb e below (T.setTop (mkF m (pc + 1) L (v :: S))) t) : Steps tb e below (T.setTop (mkF m pc L (S))) t := XS.aloadN h hx rfl hd hl hv hr
theorem S.istore {tb : Tables} [Ours tb] {e : Env} {below : List Frame} {T t : State} {m : MethodId} {c : Code} {pc : Nat} {L : Array Slot} {S : List Value} (h : At T m c below) (hx : tb.exec = Jvm.exec) {k : Nat} {x : Int32} (hd : decode c.code pc = .ok (.istore k, 2)) (L' : Array Slot) (hl : storeLocals L k (.int x) = some L') (hr : Steps tb e below (T.setTop (mkF m (pc + 2) L' (S))) t) : Steps tb e below (T.setTop (mkF m pc L (.int x :: S))) t := XS.istore h hx rfl hd rfl hl hr
theorem S.istoreN {tb : Tables} [Ours tb] {e : Env} {below : List Frame} {T t : State} {m : MethodId} {c : Code} {pc : Nat} {L : Array Slot} {S : List Value} (h : At T m c below) (hx : tb.exec = Jvm.exec) {k : Fin 4} {x : Int32} (hd : decode c.code pc = .ok (.istore_n k, 1)) (L' : Array Slot) (hl : storeLocals L k.val (.int x) = some L') (hr : Steps tb e below (T.setTop (mkF m (pc + 1) L' (S))) t) : Steps tb e below (T.setTop (mkF m pc L (.int x :: S))) t := XS.istoreN h hx rfl hd rfl hl hr
theorem S.lstore {tb : Tables} [Ours tb] {e : Env} {below : List Frame} {T t : State} {m : MethodId} {c : Code} {pc : Nat} {L : Array Slot} {S : List Value} (h : At T m c below) (hx : tb.exec = Jvm.exec) {k : Nat} {x : Int64} (hd : decode c.code pc = .ok (.lstore k, 2)) (L' : Array Slot) (hl : storeLocals L k (.long x) = some L') (hr : Steps tb e below (T.setTop (mkF m (pc + 2) L' (S))) t) : Steps tb e below (T.setTop (mkF m pc L (.long x :: S))) t := XS.lstore h hx rfl hd rfl hl hr
theorem S.lstoreN {tb : Tables} [Ours tb] {e : Env} {below : List Frame} {T t : State} {m : MethodId} {c : Code} {pc : Nat} {L : Array Slot} {S : List Value} (h : At T m c below) (hx : tb.exec = Jvm.exec) {k : Fin 4} {x : Int64} (hd : decode c.code pc = .ok (.lstore_n k, 1)) (L' : Array Slot) (hl : storeLocals L k.val (.long x) = some L') (hr : Steps tb e below (T.setTop (mkF m (pc + 1) L' (S))) t) : Steps tb e below (T.setTop (mkF m pc L (.long x :: S))) t := XS.lstoreN h hx rfl hd rfl hl hr
theorem S.astore {tb : Tables} [Ours tb] {e : Env} {below : List Frame} {T t : State} {m : MethodId} {c : Code} {pc : Nat} {L : Array Slot} {S : List Value} (h : At T m c below) (hx : tb.exec = Jvm.exec) {k : Nat} {x : Value} (hd : decode c.code pc = .ok (.astore k, 2)) (hv : x.isRef = true) (L' : Array Slot) (hl : storeLocals L k x = some L') (hr : Steps tb e below (T.setTop (mkF m (pc + 2) L' (S))) t) : Steps tb e below (T.setTop (mkF m pc L (x :: S))) t := XS.astore h hx rfl hd rfl hv hl hr
theorem S.astoreN {tb : Tables} [Ours tb] {e : Env} {below : List Frame} {T t : State} {m : MethodId} {c : Code} {pc : Nat} {L : Array Slot} {S : List Value} (h : At T m c below) (hx : tb.exec = Jvm.exec) {k : Fin 4} {x : Value} (hd : decode c.code pc = .ok (.astore_n k, 1)) (hv : x.isRef = true) (L' : Array Slot) (hl : storeLocals L k.val x = some L') (hr : Steps tb e below (T.setTop (mkF m (pc + 1) L' (S))) t) : Steps tb e below (T.setTop (mkF m pc L (x :: S))) t := XS.astoreN h hx rfl hd rfl hv hl hr
theorem S.iconst {tb : Tables} [Ours tb] {e : Env} {below : List Frame} {T t : State} {m : MethodId} {c : Code} {pc : Nat} {L : Array Slot} {S : List Value} (h : At T m c below) (hx : tb.exec = Jvm.exec) {i : Int} (v : Int32) (hd : decode c.code pc = .ok (.iconst i, 1)) (hv : Int32.ofInt i = v) (hr : Steps tb e below (T.setTop (mkF m (pc + 1) L (.int v :: S))) t) : Steps tb e below (T.setTop (mkF m pc L (S))) t := XS.iconst h hx rfl hd (hv ▸ hr)
theorem S.bipush {tb : Tables} [Ours tb] {e : Env} {below : List Frame} {T t : State} {m : MethodId} {c : Code} {pc : Nat} {L : Array Slot} {S : List Value} (h : At T m c below) (hx : tb.exec = Jvm.exec) {i : Int} (v : Int32) (hd : decode c.code pc = .ok (.bipush i, 2)) (hv : (Int8.ofInt i).toInt32 = v) (hr : Steps tb e below (T.setTop (mkF m (pc + 2) L (.int v :: S))) t) : Steps tb e below (T.setTop (mkF m pc L (S))) t := XS.bipush h hx rfl hd (hv ▸ hr)
theorem S.sipush {tb : Tables} [Ours tb] {e : Env} {below : List Frame} {T t : State} {m : MethodId} {c : Code} {pc : Nat} {L : Array Slot} {S : List Value} (h : At T m c below) (hx : tb.exec = Jvm.exec) {i : Int} (v : Int32) (hd : decode c.code pc = .ok (.sipush i, 3)) (hv : (Int16.ofInt i).toInt32 = v) (hr : Steps tb e below (T.setTop (mkF m (pc + 3) L (.int v :: S))) t) : Steps tb e below (T.setTop (mkF m pc L (S))) t := XS.sipush h hx rfl hd (hv ▸ hr)
theorem S.lconst {tb : Tables} [Ours tb] {e : Env} {below : List Frame} {T t : State} {m : MethodId} {c : Code} {pc : Nat} {L : Array Slot} {S : List Value} (h : At T m c below) (hx : tb.exec = Jvm.exec) {k : Fin 2} (v : Int64) (hd : decode c.code pc = .ok (.lconst k, 1)) (hv : Int64.ofNat k = v) (hr : Steps tb e below (T.setTop (mkF m (pc + 1) L (.long v :: S))) t) : Steps tb e below (T.setTop (mkF m pc L (S))) t := XS.lconst h hx rfl hd (hv ▸ hr)
theorem S.aconstNull {tb : Tables} [Ours tb] {e : Env} {below : List Frame} {T t : State} {m : MethodId} {c : Code} {pc : Nat} {L : Array Slot} {S : List Value} (h : At T m c below) (hx : tb.exec = Jvm.exec)  (hd : decode c.code pc = .ok (.aconst_null, 1)) (hr : Steps tb e below (T.setTop (mkF m (pc + 1) L (.null :: S))) t) : Steps tb e below (T.setTop (mkF m pc L (S))) t := XS.aconstNull h hx rfl hd hr
theorem S.iadd {tb : Tables} [Ours tb] {e : Env} {below : List Frame} {T t : State} {m : MethodId} {c : Code} {pc : Nat} {L : Array Slot} {S : List Value} (h : At T m c below) (hx : tb.exec = Jvm.exec) {x y : Int32} (hd : decode c.code pc = .ok (.iadd, 1)) (hr : Steps tb e below (T.setTop (mkF m (pc + 1) L (.int (x + y) :: S))) t) : Steps tb e below (T.setTop (mkF m pc L (.int y :: .int x :: S))) t := XS.iadd h hx rfl hd rfl hr
theorem S.isub {tb : Tables} [Ours tb] {e : Env} {below : List Frame} {T t : State} {m : MethodId} {c : Code} {pc : Nat} {L : Array Slot} {S : List Value} (h : At T m c below) (hx : tb.exec = Jvm.exec) {x y : Int32} (hd : decode c.code pc = .ok (.isub, 1)) (hr : Steps tb e below (T.setTop (mkF m (pc + 1) L (.int (x - y) :: S))) t) : Steps tb e below (T.setTop (mkF m pc L (.int y :: .int x :: S))) t := XS.isub h hx rfl hd rfl hr
theorem S.imul {tb : Tables} [Ours tb] {e : Env} {below : List Frame} {T t : State} {m : MethodId} {c : Code} {pc : Nat} {L : Array Slot} {S : List Value} (h : At T m c below) (hx : tb.exec = Jvm.exec) {x y : Int32} (hd : decode c.code pc = .ok (.imul, 1)) (hr : Steps tb e below (T.setTop (mkF m (pc + 1) L (.int (x * y) :: S))) t) : Steps tb e below (T.setTop (mkF m pc L (.int y :: .int x :: S))) t := XS.imul h hx rfl hd rfl hr
theorem S.iand {tb : Tables} [Ours tb] {e : Env} {below : List Frame} {T t : State} {m : MethodId} {c : Code} {pc : Nat} {L : Array Slot} {S : List Value} (h : At T m c below) (hx : tb.exec = Jvm.exec) {x y : Int32} (hd : decode c.code pc = .ok (.iand, 1)) (hr : Steps tb e below (T.setTop (mkF m (pc + 1) L (.int (x &&& y) :: S))) t) : Steps tb e below (T.setTop (mkF m pc L (.int y :: .int x :: S))) t := XS.iand h hx rfl hd rfl hr
theorem S.ior {tb : Tables} [Ours tb] {e : Env} {below : List Frame} {T t : State} {m : MethodId} {c : Code} {pc : Nat} {L : Array Slot} {S : List Value} (h : At T m c below) (hx : tb.exec = Jvm.exec) {x y : Int32} (hd : decode c.code pc = .ok (.ior, 1)) (hr : Steps tb e below (T.setTop (mkF m (pc + 1) L (.int (x ||| y) :: S))) t) : Steps tb e below (T.setTop (mkF m pc L (.int y :: .int x :: S))) t := XS.ior h hx rfl hd rfl hr
theorem S.ixor {tb : Tables} [Ours tb] {e : Env} {below : List Frame} {T t : State} {m : MethodId} {c : Code} {pc : Nat} {L : Array Slot} {S : List Value} (h : At T m c below) (hx : tb.exec = Jvm.exec) {x y : Int32} (hd : decode c.code pc = .ok (.ixor, 1)) (hr : Steps tb e below (T.setTop (mkF m (pc + 1) L (.int (x ^^^ y) :: S))) t) : Steps tb e below (T.setTop (mkF m pc L (.int y :: .int x :: S))) t := XS.ixor h hx rfl hd rfl hr
theorem S.ladd {tb : Tables} [Ours tb] {e : Env} {below : List Frame} {T t : State} {m : MethodId} {c : Code} {pc : Nat} {L : Array Slot} {S : List Value} (h : At T m c below) (hx : tb.exec = Jvm.exec) {x y : Int64} (hd : decode c.code pc = .ok (.ladd, 1)) (hr : Steps tb e below (T.setTop (mkF m (pc + 1) L (.long (x + y) :: S))) t) : Steps tb e below (T.setTop (mkF m pc L (.long y :: .long x :: S))) t := XS.ladd h hx rfl hd rfl hr
theorem S.lsub {tb : Tables} [Ours tb] {e : Env} {below : List Frame} {T t : State} {m : MethodId} {c : Code} {pc : Nat} {L : Array Slot} {S : List Value} (h : At T m c below) (hx : tb.exec = Jvm.exec) {x y : Int64} (hd : decode c.code pc = .ok (.lsub, 1)) (hr : Steps tb e below (T.setTop (mkF m (pc + 1) L (.long (x - y) :: S))) t) : Steps tb e below (T.setTop (mkF m pc L (.long y :: .long x :: S))) t := XS.lsub h hx rfl hd rfl hr
theorem S.lmul {tb : Tables} [Ours tb] {e : Env} {below : List Frame} {T t : State} {m : MethodId} {c : Code} {pc : Nat} {L : Array Slot} {S : List Value} (h : At T m c below) (hx : tb.exec = Jvm.exec) {x y : Int64} (hd : decode c.code pc = .ok (.lmul, 1)) (hr : Steps tb e below (T.setTop (mkF m (pc + 1) L (.long (x * y) :: S))) t) : Steps tb e below (T.setTop (mkF m pc L (.long y :: .long x :: S))) t := XS.lmul h hx rfl hd rfl hr
theorem S.land {tb : Tables} [Ours tb] {e : Env} {below : List Frame} {T t : State} {m : MethodId} {c : Code} {pc : Nat} {L : Array Slot} {S : List Value} (h : At T m c below) (hx : tb.exec = Jvm.exec) {x y : Int64} (hd : decode c.code pc = .ok (.land, 1)) (hr : Steps tb e below (T.setTop (mkF m (pc + 1) L (.long (x &&& y) :: S))) t) : Steps tb e below (T.setTop (mkF m pc L (.long y :: .long x :: S))) t := XS.land h hx rfl hd rfl hr
theorem S.lor {tb : Tables} [Ours tb] {e : Env} {below : List Frame} {T t : State} {m : MethodId} {c : Code} {pc : Nat} {L : Array Slot} {S : List Value} (h : At T m c below) (hx : tb.exec = Jvm.exec) {x y : Int64} (hd : decode c.code pc = .ok (.lor, 1)) (hr : Steps tb e below (T.setTop (mkF m (pc + 1) L (.long (x ||| y) :: S))) t) : Steps tb e below (T.setTop (mkF m pc L (.long y :: .long x :: S))) t := XS.lor h hx rfl hd rfl hr
theorem S.lxor {tb : Tables} [Ours tb] {e : Env} {below : List Frame} {T t : State} {m : MethodId} {c : Code} {pc : Nat} {L : Array Slot} {S : List Value} (h : At T m c below) (hx : tb.exec = Jvm.exec) {x y : Int64} (hd : decode c.code pc = .ok (.lxor, 1)) (hr : Steps tb e below (T.setTop (mkF m (pc + 1) L (.long (x ^^^ y) :: S))) t) : Steps tb e below (T.setTop (mkF m pc L (.long y :: .long x :: S))) t := XS.lxor h hx rfl hd rfl hr
theorem S.iaddV {tb : Tables} [Ours tb] {e : Env} {below : List Frame} {T t : State} {m : MethodId} {c : Code} {pc : Nat} {L : Array Slot} {S : List Value} (h : At T m c below) (hx : tb.exec = Jvm.exec) {x y : Int32} (v : Int32) (hd : decode c.code pc = .ok (.iadd, 1)) (hv : x + y = v) (hr : Steps tb e below (T.setTop (mkF m (pc + 1) L (.int v :: S))) t) : Steps tb e below (T.setTop (mkF m pc L (.int y :: .int x :: S))) t := XS.iadd h hx rfl hd rfl (hv ▸ hr)
theorem S.isubV {tb : Tables} [Ours tb] {e : Env} {below : List Frame} {T t : State} {m : MethodId} {c : Code} {pc : Nat} {L : Array Slot} {S : List Value} (h : At T m c below) (hx : tb.exec = Jvm.exec) {x y : Int32} (v : Int32) (hd : decode c.code pc = .ok (.isub, 1)) (hv : x - y = v) (hr : Steps tb e below (T.setTop (mkF m (pc + 1) L (.int v :: S))) t) : Steps tb e below (T.setTop (mkF m pc L (.int y :: .int x :: S))) t := XS.isub h hx rfl hd rfl (hv ▸ hr)
theorem S.imulV {tb : Tables} [Ours tb] {e : Env} {below : List Frame} {T t : State} {m : MethodId} {c : Code} {pc : Nat} {L : Array Slot} {S : List Value} (h : At T m c below) (hx : tb.exec = Jvm.exec) {x y : Int32} (v : Int32) (hd : decode c.code pc = .ok (.imul, 1)) (hv : x * y = v) (hr : Steps tb e below (T.setTop (mkF m (pc + 1) L (.int v :: S))) t) : Steps tb e below (T.setTop (mkF m pc L (.int y :: .int x :: S))) t := XS.imul h hx rfl hd rfl (hv ▸ hr)
theorem S.ishl {tb : Tables} [Ours tb] {e : Env} {below : List Frame} {T t : State} {m : MethodId} {c : Code} {pc : Nat} {L : Array Slot} {S : List Value} (h : At T m c below) (hx : tb.exec = Jvm.exec) {x : Int32} {y : Int32} (hd : decode c.code pc = .ok (.ishl, 1)) (hr : Steps tb e below (T.setTop (mkF m (pc + 1) L (.int (x <<< (y &&& 31)) :: S))) t) : Steps tb e below (T.setTop (mkF m pc L (.int y :: .int x :: S))) t := XS.ishl h hx rfl hd rfl hr
theorem S.ishr {tb : Tables} [Ours tb] {e : Env} {below : List Frame} {T t : State} {m : MethodId} {c : Code} {pc : Nat} {L : Array Slot} {S : List Value} (h : At T m c below) (hx : tb.exec = Jvm.exec) {x : Int32} {y : Int32} (hd : decode c.code pc = .ok (.ishr, 1)) (hr : Steps tb e below (T.setTop (mkF m (pc + 1) L (.int (x >>> (y &&& 31)) :: S))) t) : Steps tb e below (T.setTop (mkF m pc L (.int y :: .int x :: S))) t := XS.ishr h hx rfl hd rfl hr
theorem S.iushr {tb : Tables} [Ours tb] {e : Env} {below : List Frame} {T t : State} {m : MethodId} {c : Code} {pc : Nat} {L : Array Slot} {S : List Value} (h : At T m c below) (hx : tb.exec = Jvm.exec) {x : Int32} {y : Int32} (hd : decode c.code pc = .ok (.iushr, 1)) (hr : Steps tb e below (T.setTop (mkF m (pc + 1) L (.int ((x.toUInt32 >>> (y &&& 31).toUInt32).toInt32) :: S))) t) : Steps tb e below (T.setTop (mkF m pc L (.int y :: .int x :: S))) t := XS.iushr h hx rfl hd rfl hr
theorem S.lshl {tb : Tables} [Ours tb] {e : Env} {below : List Frame} {T t : State} {m : MethodId} {c : Code} {pc : Nat} {L : Array Slot} {S : List Value} (h : At T m c below) (hx : tb.exec = Jvm.exec) {x : Int64} {y : Int32} (hd : decode c.code pc = .ok (.lshl, 1)) (hr : Steps tb e below (T.setTop (mkF m (pc + 1) L (.long (x <<< (y &&& 0x3f).toInt64) :: S))) t) : Steps tb e below (T.setTop (mkF m pc L (.int y :: .long x :: S))) t := XS.lshl h hx rfl hd rfl hr
theorem S.lshr {tb : Tables} [Ours tb] {e : Env} {below : List Frame} {T t : State} {m : MethodId} {c : Code} {pc : Nat} {L : Array Slot} {S : List Value} (h : At T m c below) (hx : tb.exec = Jvm.exec) {x : Int64} {y : Int32} (hd : decode c.code pc = .ok (.lshr, 1)) (hr : Steps tb e below (T.setTop (mkF m (pc + 1) L (.long (x >>> (y &&& 0x3f).toInt64) :: S))) t) : Steps tb e below (T.setTop (mkF m pc L (.int y :: .long x :: S))) t := XS.lshr h hx rfl hd rfl hr
theorem S.lushr {tb : Tables} [Ours tb] {e : Env} {below : List Frame} {T t : State} {m : MethodId} {c : Code} {pc : Nat} {L : Array Slot} {S : List Value} (h : At T m c below) (hx : tb.exec = Jvm.exec) {x : Int64} {y : Int32} (hd : decode c.code pc = .ok (.lushr, 1)) (hr : Steps tb e below (T.setTop (mkF m (pc + 1) L (.long ((x.toUInt64 >>> (y &&& 0x3f).toInt64.toUInt64).toInt64) :: S))) t) : Steps tb e below (T.setTop (mkF m pc L (.int y :: .long x :: S))) t := XS.lushr h hx rfl hd rfl hr
theorem S.i2c {tb : Tables} [Ours tb] {e : Env} {below : List Frame} {T t : State} {m : MethodId} {c : Code} {pc : Nat} {L : Array Slot} {S : List Value} (h : At T m c below) (hx : tb.exec = Jvm.exec) {x : Int32} (hd : decode c.code pc = .ok (.i2c, 1)) (hr : Steps tb e below (T.setTop (mkF m (pc + 1) L (.int (x.toUInt32.toUInt16.toUInt32.toInt32) :: S))) t) : Steps tb e below (T.setTop (mkF m pc L (.int x :: S))) t := XS.i2c h hx rfl hd rfl hr
theorem S.i2b {tb : Tables} [Ours tb] {e : Env} {below : List Frame} {T t : State} {m : MethodId} {c : Code} {pc : Nat} {L : Array Slot} {S : List Value} (h : At T m c below) (hx : tb.exec = Jvm.exec) {x : Int32} (hd : decode c.code pc = .ok (.i2b, 1)) (hr : Steps tb e below (T.setTop (mkF m (pc + 1) L (.int (x.toInt8.toInt32) :: S))) t) : Steps tb e below (T.setTop (mkF m pc L (.int x :: S))) t := XS.i2b h hx rfl hd rfl hr
theorem S.i2l {tb : Tables} [Ours tb] {e : Env} {below : List Frame} {T t : State} {m : MethodId} {c : Code} {pc : Nat} {L : Array Slot} {S : List Value} (h : At T m c below) (hx : tb.exec = Jvm.exec) {x : Int32} (hd : decode c.code pc = .ok (.i2l, 1)) (hr : Steps tb e below (T.setTop (mkF m (pc + 1) L (.long (x.toInt64) :: S))) t) : Steps tb e below (T.setTop (mkF m pc L (.int x :: S))) t := XS.i2l h hx rfl hd rfl hr
theorem S.l2i {tb : Tables} [Ours tb] {e : Env} {below : List Frame} {T t : State} {m : MethodId} {c : Code} {pc : Nat} {L : Array Slot} {S : List Value} (h : At T m c below) (hx : tb.exec = Jvm.exec) {x : Int64} (hd : decode c.code pc = .ok (.l2i, 1)) (hr : Steps tb e below (T.setTop (mkF m (pc + 1) L (.int (x.toInt32) :: S))) t) : Steps tb e below (T.setTop (mkF m pc L (.long x :: S))) t := XS.l2i h hx rfl hd rfl hr
theorem S.ineg {tb : Tables} [Ours tb] {e : Env} {below : List Frame} {T t : State} {m : MethodId} {c : Code} {pc : Nat} {L : Array Slot} {S : List Value} (h : At T m c below) (hx : tb.exec = Jvm.exec) {x : Int32} (hd : decode c.code pc = .ok (.ineg, 1)) (hr : Steps tb e below (T.setTop (mkF m (pc + 1) L (.int (-x) :: S))) t) : Steps tb e below (T.setTop (mkF m pc L (.int x :: S))) t := XS.ineg h hx rfl hd rfl hr
theorem S.i2cM {tb : Tables} [Ours tb] {e : Env} {below : List Frame} {T t : State} {m : MethodId} {c : Code} {pc : Nat} {L : Array Slot} {S : List Value} (h : At T m c below) (hx : tb.exec = Jvm.exec) {x : Int32} (hd : decode c.code pc = .ok (.i2c, 1)) (hr : Steps tb e below (T.setTop (mkF m (pc + 1) L (.int (x &&& 255) :: S))) t) : Steps tb e below (T.setTop (mkF m pc L (.int (x &&& 255) :: S))) t := XS.i2c h hx rfl hd rfl (by rw [i2c_mask]; exact hr)
theorem S.iinc {tb : Tables} [Ours tb] {e : Env} {below : List Frame} {T t : State} {m : MethodId} {c : Code} {pc : Nat} {L : Array Slot} {S : List Value} (h : At T m c below) (hx : tb.exec = Jvm.exec) {k : Nat} {d : Int} {x : Int32} (v : Int32) (hd : decode c.code pc = .ok (.iinc k d, 3)) (hl : L[k]? = some (.val (.int x))) (hv : x + Int32.ofInt d = v) (L' : Array Slot) (hl' : storeLocals L k (.int v) = some L') (hr : Steps tb e below (T.setTop (mkF m (pc + 3) L' (S))) t) : Steps tb e below (T.setTop (mkF m pc L (S))) t := XS.iinc h hx rfl hd hl (hv ▸ hl') hr
theorem S.dup {tb : Tables} [Ours tb] {e : Env} {below : List Frame} {T t : State} {m : MethodId} {c : Code} {pc : Nat} {L : Array Slot} {S : List Value} (h : At T m c below) (hx : tb.exec = Jvm.exec) {x : Value} (hd : decode c.code pc = .ok (.dup, 1)) (hc : x.category = 1) (hr : Steps tb e below (T.setTop (mkF m (pc + 1) L (x :: x :: S))) t) : Steps tb e below (T.setTop (mkF m pc L (x :: S))) t := XS.dup h hx rfl hd rfl hc hr
theorem S.pop {tb : Tables} [Ours tb] {e : Env} {below : List Frame} {T t : State} {m : MethodId} {c : Code} {pc : Nat} {L : Array Slot} {S : List Value} (h : At T m c below) (hx : tb.exec = Jvm.exec) {x : Value} (hd : decode c.code pc = .ok (.pop, 1)) (hc : x.category = 1) (hr : Steps tb e below (T.setTop (mkF m (pc + 1) L (S))) t) : Steps tb e below (T.setTop (mkF m pc L (x :: S))) t := XS.pop h hx rfl hd rfl hc hr
theorem S.lcmp {tb : Tables} [Ours tb] {e : Env} {below : List Frame} {T t : State} {m : MethodId} {c : Code} {pc : Nat} {L : Array Slot} {S : List Value} (h : At T m c below) (hx : tb.exec = Jvm.exec) {x y : Int64} (hd : decode c.code pc = .ok (.lcmp, 1)) (hr : Steps tb e below (T.setTop (mkF m (pc + 1) L (.int (if x > y then 1 else if x = y then 0 else -1) :: S))) t) : Steps tb e below (T.setTop (mkF m pc L (.long y :: .long x :: S))) t := XS.lcmp h hx rfl hd rfl hr
theorem S.goto {tb : Tables} [Ours tb] {e : Env} {below : List Frame} {T t : State} {m : MethodId} {c : Code} {pc : Nat} {L : Array Slot} {S : List Value} (h : At T m c below) (hx : tb.exec = Jvm.exec) {o : Int} (pc' : Nat) (hd : decode c.code pc = .ok (.goto o, 3)) (ho : 0 ≤ (pc : Int) + o) (hp : ((pc : Int) + o).toNat = pc') (hr : Steps tb e below (T.setTop (mkF m (pc') L (S))) t) : Steps tb e below (T.setTop (mkF m pc L (S))) t := XS.goto h hx rfl rfl hd ho hp hr
theorem S.ifYes {tb : Tables} [Ours tb] {e : Env} {below : List Frame} {T t : State} {m : MethodId} {c : Code} {pc : Nat} {L : Array Slot} {S : List Value} (h : At T m c below) (hx : tb.exec = Jvm.exec) {cd : ClassFile.Cond} {x : Int32} {o : Int} (pc' : Nat) (hd : decode c.code pc = .ok (.ifCond cd o, 3)) (hc : ifCond.holds cd x = true) (ho : 0 ≤ (pc : Int) + o) (hp : ((pc : Int) + o).toNat = pc') (hr : Steps tb e below (T.setTop (mkF m (pc') L (S))) t) : Steps tb e below (T.setTop (mkF m pc L (.int x :: S))) t := XS.ifYes h hx rfl rfl hd rfl hc ho hp hr
theorem S.ifNo {tb : Tables} [Ours tb] {e : Env} {below : List Frame} {T t : State} {m : MethodId} {c : Code} {pc : Nat} {L : Array Slot} {S : List Value} (h : At T m c below) (hx : tb.exec = Jvm.exec) {cd : ClassFile.Cond} {x : Int32} {o : Int} (hd : decode c.code pc = .ok (.ifCond cd o, 3)) (hc : ifCond.holds cd x = false) (hr : Steps tb e below (T.setTop (mkF m (pc + 3) L (S))) t) : Steps tb e below (T.setTop (mkF m pc L (.int x :: S))) t := XS.ifNo h hx rfl hd rfl hc hr
theorem S.icmpYes {tb : Tables} [Ours tb] {e : Env} {below : List Frame} {T t : State} {m : MethodId} {c : Code} {pc : Nat} {L : Array Slot} {S : List Value} (h : At T m c below) (hx : tb.exec = Jvm.exec) {cd : ClassFile.Cond} {x y : Int32} {o : Int} (pc' : Nat) (hd : decode c.code pc = .ok (.if_icmp cd o, 3)) (hc : if_icmp.holds cd x y = true) (ho : 0 ≤ (pc : Int) + o) (hp : ((pc : Int) + o).toNat = pc') (hr : Steps tb e below (T.setTop (mkF m (pc') L (S))) t) : Steps tb e below (T.setTop (mkF m pc L (.int y :: .int x :: S))) t := XS.icmpYes h hx rfl rfl hd rfl hc ho hp hr
theorem S.icmpNo {tb : Tables} [Ours tb] {e : Env} {below : List Frame} {T t : State} {m : MethodId} {c : Code} {pc : Nat} {L : Array Slot} {S : List Value} (h : At T m c below) (hx : tb.exec = Jvm.exec) {cd : ClassFile.Cond} {x y : Int32} {o : Int} (hd : decode c.code pc = .ok (.if_icmp cd o, 3)) (hc : if_icmp.holds cd x y = false) (hr : Steps tb e below (T.setTop (mkF m (pc + 3) L (S))) t) : Steps tb e below (T.setTop (mkF m pc L (.int y :: .int x :: S))) t := XS.icmpNo h hx rfl hd rfl hc hr
theorem S.ifnullYes {tb : Tables} [Ours tb] {e : Env} {below : List Frame} {T t : State} {m : MethodId} {c : Code} {pc : Nat} {L : Array Slot} {S : List Value} (h : At T m c below) (hx : tb.exec = Jvm.exec) {o : Int} (pc' : Nat) (hd : decode c.code pc = .ok (.ifnull o, 3)) (ho : 0 ≤ (pc : Int) + o) (hp : ((pc : Int) + o).toNat = pc') (hr : Steps tb e below (T.setTop (mkF m (pc') L (S))) t) : Steps tb e below (T.setTop (mkF m pc L (.null :: S))) t := XS.ifnullYes h hx rfl rfl hd rfl ho hp hr
theorem S.ifnullNo {tb : Tables} [Ours tb] {e : Env} {below : List Frame} {T t : State} {m : MethodId} {c : Code} {pc : Nat} {L : Array Slot} {S : List Value} (h : At T m c below) (hx : tb.exec = Jvm.exec) {o : Int} {b : Addr} (hd : decode c.code pc = .ok (.ifnull o, 3)) (hr : Steps tb e below (T.setTop (mkF m (pc + 3) L (S))) t) : Steps tb e below (T.setTop (mkF m pc L (.ref b :: S))) t := XS.ifnullNo h hx rfl hd rfl hr
theorem S.ifnonnullYes {tb : Tables} [Ours tb] {e : Env} {below : List Frame} {T t : State} {m : MethodId} {c : Code} {pc : Nat} {L : Array Slot} {S : List Value} (h : At T m c below) (hx : tb.exec = Jvm.exec) {o : Int} {b : Addr} (pc' : Nat) (hd : decode c.code pc = .ok (.ifnonnull o, 3)) (ho : 0 ≤ (pc : Int) + o) (hp : ((pc : Int) + o).toNat = pc') (hr : Steps tb e below (T.setTop (mkF m (pc') L (S))) t) : Steps tb e below (T.setTop (mkF m pc L (.ref b :: S))) t := XS.ifnonnullYes h hx rfl rfl hd rfl ho hp hr
theorem S.ifnonnullNo {tb : Tables} [Ours tb] {e : Env} {below : List Frame} {T t : State} {m : MethodId} {c : Code} {pc : Nat} {L : Array Slot} {S : List Value} (h : At T m c below) (hx : tb.exec = Jvm.exec) {o : Int} (hd : decode c.code pc = .ok (.ifnonnull o, 3)) (hr : Steps tb e below (T.setTop (mkF m (pc + 3) L (S))) t) : Steps tb e below (T.setTop (mkF m pc L (.null :: S))) t := XS.ifnonnullNo h hx rfl hd rfl hr
end Jvm.Pilot.@@N@@
namespace Jvm.Pilot.@@N@@
open Jvm Jvm.ClassFile Sem Op Lib Jvm.Free Jvm.Stand Jvm.LawKit Jvm.RoadKit Bundle Jvm.Pilot.@@N@@.Jvm.D
section OwnKit
variable {p : Program} {l : Launch} {e : Env} {R : Room} {s : State} {m : MethodId} {args : Array Value} {below : List Frame} {meth : Method} {c : Code} {Z : State} {a0 : Array Value} {EL : List (String × Nat)} {n0 : Nat} {own : String} {nw : Bool} {st : State} {vm0 : Vm} {h : Heap} {g g' : JFrame} {cells slots : Nat}
/-- where a walk stands: the heap h, the frame g, so many cells and slots made; nw: nothing interned since its start -/
def Wk (p : Program) (l : Launch) (e : Env) (R : Room) (s : State) (m : MethodId) (args : Array Value) (below : List Frame) (meth : Method) (c : Code) (Z : State) (a0 : Array Value) (EL : List (String × Nat)) (n0 : Nat) (own : String) (nw : Bool) (st : State) (vm0 : Vm) (h : Heap) (g : JFrame) (cells slots : Nat) : Prop :=
  ∃ (T : State) (locs : List Loc) (k0 : Nat), Stand p l e R (s.setVm vm0) m args below meth c T locs cells slots ∧ T.heap = h ∧ s.Since vm0 k0 ∧ k0 ≤ h.size ∧ Z.Warmed39 vm0 ∧ vm0.findClass own = some m.cls ∧ Fr n0 locs ∧ (nw = true → vm0 = s.vm) ∧ EW Z a0 EL ∧ CHr Z EL s.vm s.heap vm0 h ∧ p.tables.exec = Jvm.exec ∧ ∀ t, Steps p.tables e below (T.setTop g) t → Steps p.tables e below st t
theorem exlt {h : Heap} {a : Addr} {C : String} (E : Exa Z h a C) : h.size > a := E.lt
theorem arlt {h : Heap} {a : Addr} {k : ClassId} {ty : FieldType} {z : Int32} {vs : List Value} {d : Value} (V : Arv Z h a k ty z vs d) : h.size > a := V.lt
theorem nne {a b : Nat} (h : a < b ∨ b < a) : a ≠ b := by omega
theorem safe0 {vm : Vm} {h : Heap} {x : Addr} : Safe Z [] vm h x := fun ⟨_, hp, _⟩ => nomatch hp
theorem chv0 {vm : Vm} {h : Heap} : CHv Z [] vm h := fun _ hp => nomatch hp
theorem Wk.start {x : MethodName} {S : Spec} {code : ByteArray} {maxLocals : Nat} {ret : Option FieldType} {s₁ : State} (Bd : BodyLoose p l x S code maxLocals ret e s m args below meth c s₁) (hZ : Z.Warmed39 s.vm) (hh : s.heap = h) (hE : EW Z a0 EL) (hC : CHv Z EL s.vm h) (ef : entryFrame m args maxLocals = g) (R : Room) (hR : S.room = R) :
    Wk p l e R s m args below meth c Z a0 EL n0 x.cls nw (s₁.setTop (entryFrame m args maxLocals)) s.vm h g 0 0 := by
  subst hh hR
  exact ⟨s₁, [], s.heap.size, Stand.of_body Bd, by rw [Bd.state]; rfl, (State.WarmedH.refl s).since _, Nat.le_refl _, hZ, findClass_of_methodNamed Bd.named, Fr.nil _, fun _ => rfl, hE, CHr.refl hC, Bd.exec, fun t k => castTop ef k⟩
theorem Wk.hZ (w : Wk p l e R s m args below meth c Z a0 EL n0 own nw st vm0 h g cells slots) : Z.Warmed39 (s.setVm vm0).vm := by
  obtain ⟨T, locs, k0, X, eT, hS, hk, hZ, hown, N, hnw, hE, hC, hx, pre⟩ := w; exact hZ
theorem Wk.al (w : Wk p l e R s m args below meth c Z a0 EL n0 own nw st vm0 h g cells slots) : Z.vm.Alike vm0 := State.Warmed39.alike (s := Z) w.hZ
theorem Wk.chv (w : Wk p l e R s m args below meth c Z a0 EL n0 own nw st vm0 h g cells slots) : CHv Z EL vm0 h := by
  obtain ⟨T, locs, k0, X, eT, hS, hk, hZ, hown, N, hnw, hE, hC, hx, pre⟩ := w; exact hC.1
theorem Wk.pure (w : Wk p l e R s m args below meth c Z a0 EL n0 own nw st vm0 h g cells slots) (g' : JFrame)
    (k : ∀ {T : State} {locs : List Loc} {t : State}, Stand p l e R (s.setVm vm0) m args below meth c T locs cells slots → T.heap = h → Z.Warmed39 (s.setVm vm0).vm → (s.setVm vm0).vm.findClass own = some m.cls → Steps p.tables e below (T.setTop g') t → Steps p.tables e below (T.setTop g) t) :
    Wk p l e R s m args below meth c Z a0 EL n0 own nw st vm0 h g' cells slots := by
  obtain ⟨T, locs, k0, X, eT, hS, hk, hZ, hown, N, hnw, hE, hC, hx, pre⟩ := w
  exact ⟨T, locs, k0, X, eT, hS, hk, hZ, hown, N, hnw, hE, hC, hx, fun t q => pre t (k X eT hZ hown q)⟩
/-- a step that moves the tables alone -/
theorem Wk.same (w : Wk p l e R s m args below meth c Z a0 EL n0 own nw st vm0 h g cells slots) (g' : JFrame)
    (k : ∀ {T : State} {locs : List Loc}, Stand p l e R (s.setVm vm0) m args below meth c T locs cells slots → T.heap = h → Z.Warmed39 (s.setVm vm0).vm → (s.setVm vm0).vm.findClass own = some m.cls → ∃ T', Stand p l e R (s.setVm vm0) m args below meth c T' locs cells slots ∧ T'.heap = h ∧ ∀ t, Steps p.tables e below (T'.setTop g') t → Steps p.tables e below (T.setTop g) t) :
    Wk p l e R s m args below meth c Z a0 EL n0 own nw st vm0 h g' cells slots := by
  obtain ⟨T, locs, k0, X, eT, hS, hk, hZ, hown, N, hnw, hE, hC, hx, pre⟩ := w
  obtain ⟨T', X', e', q⟩ := k X eT hZ hown
  exact ⟨T', locs, k0, X', e', hS, hk, hZ, hown, N, hnw, hE, hC, hx, fun t z => pre t (q t z)⟩
theorem Wk.more (w : Wk p l e R s m args below meth c Z a0 EL n0 own nw st vm0 h g cells slots) {k n : Nat} (hc : cells ≤ k) (hn : slots ≤ n) : Wk p l e R s m args below meth c Z a0 EL n0 own nw st vm0 h g k n := by
  obtain ⟨T, locs, k0, X, eT, hS, hk, hZ, hown, N, hnw, hE, hC, hx, pre⟩ := w
  exact ⟨T, locs, k0, X.mono hc hn, eT, hS, hk, hZ, hown, N, hnw, hE, hC, hx, pre⟩
theorem Wk.newO (w : Wk p l e R s m args below meth c Z a0 EL n0 own nw st vm0 h g cells slots) (hx : p.tables.exec = Jvm.exec) {C : String} {index n : Nat} (w1 : (Cond.classLink own index C).before a0 Z = true) (w2 : (Cond.instantiable C n).before a0 Z = true) (w3 : (Cond.initialized C).before a0 Z = true)
    (hg : g.method = m) (hd : decode c.code g.pc = .ok (.new index, 3)) (hc : cells + 1 ≤ R.cells) (hl : slots + n ≤ R.slots) (g' : Addr → JFrame) (hg' : ∀ x, g' x = { g with pc := g.pc + 3, stack := .ref x :: g.stack }) :
    ∃ (x : Nat) (h' : Heap), x = h.size ∧ Ext h h' ∧ h'.size > x ∧ Exa Z h' x C ∧ (∀ {O nm d : String} {ty : FieldType}, Laid Z a0 C O nm d → parseFieldDescriptor d = some ty → Fld Z h' x O nm d (defaultValue ty)) ∧ Safe Z EL vm0 h' x ∧ Wk p l e R s m args below meth c Z a0 EL n0 own nw st vm0 h' (g' x) (cells + 1) (slots + n) := by
  obtain ⟨T, locs, k0, X, eT, hS, hk, hZ, hown, N, hnw, hE, hC, -, pre⟩ := w
  obtain ⟨T', h', X', e', E, A, D, -, st'⟩ := RoadKit.newO X hx hZ hown w1 w2 w3 eT hg hd hc hl
  exact ⟨h.size, h', rfl, E, A.lt, A, D, Safe.ext E hC.1 (Safe.new (Nat.le_refl _)), T', locs, k0, X', e', hS, Nat.le_trans hk E.1, hZ, hown, N, hnw, hE, hC.trans (CHr.ext E hC.1), hx, fun t k => pre t (st' t (hg' h.size ▸ k))⟩
theorem Wk.newP (w : Wk p l e R s m args below meth c Z a0 EL n0 own nw st vm0 h g cells slots) (hx : p.tables.exec = Jvm.exec) {aty : ArrayType} (w1 : (Cond.arrayClass (newarray.typeOf aty)).before a0 Z = true) (hg : g.method = m) (hd : decode c.code g.pc = .ok (.newarray aty, 2)) {n : Int32} {rest : List Value} (hs : g.stack = .int n :: rest)
    (hn : ¬ n < 0) (cap : Nat) (hcap : n.toNatClampNeg ≤ cap) (hb : cap * 8 ≤ 536870912) (hc : cells + 1 ≤ R.cells) (hl : slots + cap ≤ R.slots) (g' : Addr → JFrame) (hg' : ∀ x, g' x = { g with pc := g.pc + 2, stack := .ref x :: rest }) :
    ∃ (x : Nat) (h' : Heap) (k : ClassId), x = h.size ∧ Ext h h' ∧ h'.size > x ∧ Arv Z h' x k (newarray.typeOf aty) n [] (defaultValue (newarray.typeOf aty)) ∧ Safe Z EL vm0 h' x ∧ Wk p l e R s m args below meth c Z a0 EL n0 own nw st vm0 h' (g' x) (cells + 1) (slots + cap) := by
  obtain ⟨T, locs, k0, X, eT, hS, hk, hZ, hown, N, hnw, hE, hC, -, pre⟩ := w
  obtain ⟨T', h', k, X', e', E, A, st'⟩ := RoadKit.newP X hx hZ w1 eT hg hd hs hn hcap hb hc hl
  exact ⟨h.size, h', k, rfl, E, A.lt, Arv.new A hn, Safe.ext E hC.1 (Safe.new (Nat.le_refl _)), T', locs, k0, X', e', hS, Nat.le_trans hk E.1, hZ, hown, N, hnw, hE, hC.trans (CHr.ext E hC.1), hx, fun t q => pre t (st' t (hg' h.size ▸ q))⟩
theorem Wk.putF (w : Wk p l e R s m args below meth c Z a0 EL n0 own nw st vm0 h g cells slots) (hx : p.tables.exec = Jvm.exec) {R0 O n d host C : String} {index kk : Nat} {ty : FieldType} (w1 : (Cond.fieldLink own index R0 n d).before a0 Z = true ∨ (Cond.fieldLinkNest own index R0 n d host).before a0 Z = true) (via : Via Z R0 O n d)
    {a : Addr} {v old : Value} (F : Fld Z h a O n d old) (E : Exa Z h a C) (L : (Cond.lays C O n d).before a0 Z = true ∨ ((Cond.laysFinal C O n d).before a0 Z = true ∧ own = O ∧ meth.name = "<init>")) (wi : (Cond.instantiable C kk).before a0 Z = true)
    (hty : parseFieldDescriptor d = some ty) (hn : narrow ty v = v) (hf : fits ty v = true) (hg : g.method = m) {rest : List Value} (hs : g.stack = v :: .ref a :: rest) (hd : decode c.code g.pc = .ok (.putfield index, 3)) (na : n0 ≤ a) (sf : Safe Z EL vm0 h a) (g' : JFrame) (hg' : g' = { g with pc := g.pc + 3, stack := rest }) :
    ∃ h', Wr h h' a (RoadKit.slotOf Z O n d) v ∧ h'.size = h.size ∧ Fld Z h' a O n d v ∧ Wk p l e R s m args below meth c Z a0 EL n0 own nw st vm0 h' g' cells slots := by
  obtain ⟨T, locs, k0, X, eT, hS, hk, hZ, hown, N, hnw, hE, hC, -, pre⟩ := w
  obtain ⟨T', h', X', e', W, st'⟩ := RoadKit.putF X hx hZ hown w1 via eT F E L wi hty hn hf hg hs hd
  exact ⟨h', W, W.size, F.same W, T', _, k0, X', e', hS, by rw [W.size]; exact hk, hZ, hown, Fr.snoc X' N na, hnw, hE, hC.trans (CHr.wr W sf hC.1), hx, fun t q => pre t (st' t (hg' ▸ q))⟩
theorem Wk.putFN (w : Wk p l e R s m args below meth c Z a0 EL n0 own nw st vm0 h g cells slots) (hx : p.tables.exec = Jvm.exec) {R0 O n d C : String} {index kk : Nat} {ty : FieldType} (w1 : (Cond.fieldLink own index R0 n d).before a0 Z = true) (via : Via Z R0 O n d)
    {a : Addr} {v old : Value} (v' : Value) (F : Fld Z h a O n d old) (E : Exa Z h a C) (L : (Cond.lays C O n d).before a0 Z = true ∨ ((Cond.laysFinal C O n d).before a0 Z = true ∧ own = O ∧ meth.name = "<init>")) (wi : (Cond.instantiable C kk).before a0 Z = true)
    (hty : parseFieldDescriptor d = some ty) (hn : narrow ty v = v') (hf : fits ty v' = true) (hg : g.method = m) {rest : List Value} (hs : g.stack = v :: .ref a :: rest) (hd : decode c.code g.pc = .ok (.putfield index, 3)) (na : n0 ≤ a) (sf : Safe Z EL vm0 h a) (g' : JFrame) (hg' : g' = { g with pc := g.pc + 3, stack := rest }) :
    ∃ h', Wr h h' a (RoadKit.slotOf Z O n d) v' ∧ h'.size = h.size ∧ Fld Z h' a O n d v' ∧ Wk p l e R s m args below meth c Z a0 EL n0 own nw st vm0 h' g' cells slots := by
  obtain ⟨T, locs, k0, X, eT, hS, hk, hZ, hown, N, hnw, hE, hC, -, pre⟩ := w
  obtain ⟨T', h', X', e', W, st'⟩ := RoadKit.putFN X hx hZ hown w1 via eT F E L wi hty hn hf hg hs hd
  exact ⟨h', W, W.size, F.same W, T', _, k0, X', e', hS, by rw [W.size]; exact hk, hZ, hown, Fr.snoc X' N na, hnw, hE, hC.trans (CHr.wr W sf hC.1), hx, fun t q => pre t (st' t (hg' ▸ q))⟩
theorem Wk.stC (w : Wk p l e R s m args below meth c Z a0 EL n0 own nw st vm0 h g cells slots) (hx : p.tables.exec = Jvm.exec) {a : Addr} {k : ClassId} {z : Int32} {vs : List Value} {dv : Value} (V : Arv Z h a k .char z vs dv) {j x : Int32} (i : Nat) (hj : j.toNatClampNeg = i) (hi : i < vs.length) (hin : ¬ j < 0 ∧ j < z)
    (hg : g.method = m) {rest : List Value} (hs : g.stack = .int x :: .int j :: .ref a :: rest) (hd : decode c.code g.pc = .ok (.castore, 1)) (na : n0 ≤ a) (g' : JFrame) (hg' : g' = { g with pc := g.pc + 1, stack := rest }) :
    ∃ h', Wr h h' a j.toNatClampNeg (.int (nar .char x)) ∧ h'.size = h.size ∧ Arv Z h' a k .char z (vs.set i (.int (nar .char x))) dv ∧ Wk p l e R s m args below meth c Z a0 EL n0 own nw st vm0 h' g' cells slots := by
  obtain ⟨T, locs, k0, X, eT, hS, hk, hZ, hown, N, hnw, hE, hC, -, pre⟩ := w
  obtain ⟨cl, A, q, S, M, H, U⟩ := id V
  obtain ⟨T', h', X', e', W, st'⟩ := RoadKit.stC X hx hZ eT A (inb_of S hin) hg hs hd
  exact ⟨h', W, W.size, Arv.set A q S M H U (fits_nar_char _) W i hj hi, T', _, k0, X', e', hS, by rw [W.size]; exact hk, hZ, hown, Fr.snoc X' N na, hnw, hE, hC.trans (CHr.wr W (Safe.arv (State.Warmed39.alike (s := Z) hZ) V (by decide)) hC.1), hx, fun t q => pre t (st' t (hg' ▸ q))⟩
theorem Wk.stI (w : Wk p l e R s m args below meth c Z a0 EL n0 own nw st vm0 h g cells slots) (hx : p.tables.exec = Jvm.exec) {a : Addr} {k : ClassId} {z : Int32} {vs : List Value} {dv : Value} (V : Arv Z h a k .int z vs dv) {j x : Int32} (i : Nat) (hj : j.toNatClampNeg = i) (hi : i < vs.length) (hin : ¬ j < 0 ∧ j < z)
    (hg : g.method = m) {rest : List Value} (hs : g.stack = .int x :: .int j :: .ref a :: rest) (hd : decode c.code g.pc = .ok (.iastore, 1)) (na : n0 ≤ a) (g' : JFrame) (hg' : g' = { g with pc := g.pc + 1, stack := rest }) :
    ∃ h', Wr h h' a j.toNatClampNeg (.int x) ∧ h'.size = h.size ∧ Arv Z h' a k .int z (vs.set i (.int x)) dv ∧ Wk p l e R s m args below meth c Z a0 EL n0 own nw st vm0 h' g' cells slots := by
  obtain ⟨T, locs, k0, X, eT, hS, hk, hZ, hown, N, hnw, hE, hC, -, pre⟩ := w
  obtain ⟨cl, A, q, S, M, H, U⟩ := id V
  obtain ⟨T', h', X', e', W, st'⟩ := RoadKit.stI X hx hZ eT A (inb_of S hin) hg hs hd
  exact ⟨h', W, W.size, Arv.set A q S M H U rfl W i hj hi, T', _, k0, X', e', hS, by rw [W.size]; exact hk, hZ, hown, Fr.snoc X' N na, hnw, hE, hC.trans (CHr.wr W (Safe.arv (State.Warmed39.alike (s := Z) hZ) V (by decide)) hC.1), hx, fun t q => pre t (st' t (hg' ▸ q))⟩
theorem Wk.stB (w : Wk p l e R s m args below meth c Z a0 EL n0 own nw st vm0 h g cells slots) (hx : p.tables.exec = Jvm.exec) {a : Addr} {k : ClassId} {z : Int32} {vs : List Value} {dv : Value} (V : Arv Z h a k .byte z vs dv) (sf : Safe Z EL vm0 h a) {j x : Int32} (i : Nat) (hj : j.toNatClampNeg = i) (hi : i < vs.length) (hin : ¬ j < 0 ∧ j < z)
    (hg : g.method = m) {rest : List Value} (hs : g.stack = .int x :: .int j :: .ref a :: rest) (hd : decode c.code g.pc = .ok (.bastore, 1)) (na : n0 ≤ a) (g' : JFrame) (hg' : g' = { g with pc := g.pc + 1, stack := rest }) :
    ∃ h', Wr h h' a j.toNatClampNeg (.int x.toInt8.toInt32) ∧ h'.size = h.size ∧ Arv Z h' a k .byte z (vs.set i (.int x.toInt8.toInt32)) dv ∧ Wk p l e R s m args below meth c Z a0 EL n0 own nw st vm0 h' g' cells slots := by
  obtain ⟨T, locs, k0, X, eT, hS, hk, hZ, hown, N, hnw, hE, hC, -, pre⟩ := w
  obtain ⟨cl, A, q, S, M, H, U⟩ := id V
  obtain ⟨T', h', X', e', W, st'⟩ := RoadKit.stB X hx hZ eT A (inb_of S hin) hg hs hd
  exact ⟨h', W, W.size, Arv.set A q S M H U (fits_nar_byte _) W i hj hi, T', _, k0, X', e', hS, by rw [W.size]; exact hk, hZ, hown, Fr.snoc X' N na, hnw, hE, hC.trans (CHr.wr W sf hC.1), hx, fun t q => pre t (st' t (hg' ▸ q))⟩
/-! single steps that read an array -/
section Reads
variable {T : State} {locs : List Loc} {target : State}
theorem caV (X : Stand p l e R s m args below meth c T locs cells slots) (hx : p.tables.exec = Jvm.exec) (eT : T.heap = h) (hZ : Z.Warmed39 s.vm) {a : Addr} {k : ClassId} {z : Int32} {vs : List Value} {dv v : Value} (V : Arv Z h a k .char z vs dv) {j : Int32} (hin : ¬ j < 0 ∧ j < z) (hv : vs.getD j.toNatClampNeg dv = v)
    (hg : g.method = m) {rest : List Value} (hs : g.stack = .int j :: .ref a :: rest) (hd : decode c.code g.pc = .ok (.caload, 1)) (hr : Steps p.tables e below (T.setTop { g with pc := g.pc + 1, stack := v :: rest }) target) : Steps p.tables e below (T.setTop g) target := by
  obtain ⟨cl, A, q, S, M, H, U⟩ := V
  exact X.caload hx (by rw [eT]; exact A.1) (State.isArrayOf_alike hZ.alike A.2.1) A.2.2 (inb_of S hin) (H.at (inb_of S hin) hv) hg hs hd _ hr
theorem iaV (X : Stand p l e R s m args below meth c T locs cells slots) (hx : p.tables.exec = Jvm.exec) (eT : T.heap = h) (hZ : Z.Warmed39 s.vm) {a : Addr} {k : ClassId} {z : Int32} {vs : List Value} {dv v : Value} (V : Arv Z h a k .int z vs dv) {j : Int32} (hin : ¬ j < 0 ∧ j < z) (hv : vs.getD j.toNatClampNeg dv = v)
    (hg : g.method = m) {rest : List Value} (hs : g.stack = .int j :: .ref a :: rest) (hd : decode c.code g.pc = .ok (.iaload, 1)) (hr : Steps p.tables e below (T.setTop { g with pc := g.pc + 1, stack := v :: rest }) target) : Steps p.tables e below (T.setTop g) target := by
  obtain ⟨cl, A, q, S, M, H, U⟩ := V
  exact X.iaload hx (by rw [eT]; exact A.1) (State.isArrayOf_alike hZ.alike A.2.1) A.2.2 (inb_of S hin) (H.at (inb_of S hin) hv) hg hs hd _ hr
theorem baV (X : Stand p l e R s m args below meth c T locs cells slots) (hx : p.tables.exec = Jvm.exec) (eT : T.heap = h) (hZ : Z.Warmed39 s.vm) {a : Addr} {k : ClassId} {z : Int32} {vs : List Value} {dv v : Value} (V : Arv Z h a k .byte z vs dv) {j : Int32} (hin : ¬ j < 0 ∧ j < z) (hv : vs.getD j.toNatClampNeg dv = v)
    (hg : g.method = m) {rest : List Value} (hs : g.stack = .int j :: .ref a :: rest) (hd : decode c.code g.pc = .ok (.baload, 1)) (hr : Steps p.tables e below (T.setTop { g with pc := g.pc + 1, stack := v :: rest }) target) : Steps p.tables e below (T.setTop g) target := by
  obtain ⟨cl, A, q, S, M, H, U⟩ := V
  exact X.baloadBytes hx (by rw [eT]; exact A.1) (State.isArrayOf_alike hZ.alike A.2.1) A.2.2 (inb_of S hin) (H.at (inb_of S hin) hv) hg hs hd _ hr
theorem aaV (X : Stand p l e R s m args below meth c T locs cells slots) (hx : p.tables.exec = Jvm.exec) (eT : T.heap = h) (hZ : Z.Warmed39 s.vm) {a : Addr} {k : ClassId} {z : Int32} {vs : List Value} {dv v : Value} {ty : FieldType} (V : Arv Z h a k ty z vs dv) (hty : ty.isReference = true) {j : Int32} (hin : ¬ j < 0 ∧ j < z) (hv : vs.getD j.toNatClampNeg dv = v)
    (hg : g.method = m) {rest : List Value} (hs : g.stack = .int j :: .ref a :: rest) (hd : decode c.code g.pc = .ok (.aaload, 1)) (hr : Steps p.tables e below (T.setTop { g with pc := g.pc + 1, stack := v :: rest }) target) : Steps p.tables e below (T.setTop g) target := by
  obtain ⟨cl, A, q, S, M, H, U⟩ := V
  exact X.aaload hx (by rw [eT]; exact A.1) (State.isArrayOf_alike hZ.alike A.2.1) hty A.2.2 (inb_of S hin) (H.at (inb_of S hin) hv) hg hs hd _ hr
theorem alenV (X : Stand p l e R s m args below meth c T locs cells slots) (hx : p.tables.exec = Jvm.exec) (eT : T.heap = h) (hZ : Z.Warmed39 s.vm) {a : Addr} {k : ClassId} {z : Int32} {vs : List Value} {dv : Value} {ty : FieldType} (V : Arv Z h a k ty z vs dv)
    (hg : g.method = m) {rest : List Value} (hs : g.stack = .ref a :: rest) (hd : decode c.code g.pc = .ok (.arraylength, 1)) (hr : Steps p.tables e below (T.setTop { g with pc := g.pc + 1, stack := .int z :: rest }) target) : Steps p.tables e below (T.setTop g) target := by
  obtain ⟨cl, A, q, S, M, H, U⟩ := V
  exact X.arraylength hx (by rw [eT]; exact A.1) (State.isArrayOf_alike hZ.alike A.2.1) hg hs hd _ (by rw [len_of S M]; exact hr)
end Reads
/-! calls -/
/-- who pays a call: nothing interned -/
def Pay (l : Launch) (R : Room) (p : Program) (e : Env) (below : List Frame) (s : State) (args : Array Value) (y : MethodName) (W : Nat) (as' : List Value) (h : Heap) (kc ks n0 : Nat) (wr : List Addr) (Q : Option Value → Heap → Prop) : Prop :=
  Back l R p e below s args y 3 W (fun P a => a = as'.toArray ∧ P.U.heap = h ∧ P.cells + kc ≤ R.cells ∧ P.slots + ks ≤ R.slots) (fun P _ v B => ∃ L, (Q v B.U.heap ∧ Keep h B.U.heap wr ∧ Fr n0 L) ∧ B.locs = P.locs ++ L ∧ B.cells = P.cells + kc ∧ B.slots = P.slots + ks)
/-- a contract: nothing interned -/
def NMet (l : Launch) (Z : State) (y : MethodName) (bytes : ByteArray) (maxL : Nat) (ret : Option FieldType) (ws : List Jvm.Cond) (rm : Room) (as' : List Value) (h : Heap) (n0 : Nat) (wr : List Addr) (Q : Option Value → Heap → Prop) : Prop :=
  MetFree l y (head1 (Jvm.Cond.code y bytes maxL ret :: ws) rm) (fun a U => a = as'.toArray ∧ Z.Warmed39 U.vm ∧ U.heap = h) (fun _ _ _ _ _ => True) (fun _ U o U' => ∃ v L, o = .returned v ∧ (Q v U'.heap ∧ Keep h U'.heap wr ∧ Fr n0 L) ∧ FrameEnd U o U' L rm.cells rm.slots)
theorem NMet.pay {y : MethodName} {bytes : ByteArray} {maxL : Nat} {ret : Option FieldType} {rm : Room} {as' : List Value} {wr : List Addr} {Q : Option Value → Heap → Prop} {W : Nat} (M : NMet l Z y bytes maxL ret [] rm as' h n0 wr Q) (hZ : Z.Warmed39 s.vm) (wc : (Cond.code y bytes maxL ret).before a0 Z = true) (wz : (Cond.initialized y.cls).before a0 Z = true) (hf : rm.frames + 1 ≤ R.frames) (hl : W + (maxL + 11) + rm.locals ≤ R.locals) :
    Pay l R p e below s args y W as' h rm.cells rm.slots n0 wr Q := backOf (a0 := a0) (Q := fun v h' L => Q v h' ∧ Keep h h' wr ∧ Fr n0 L) M hZ wc wz hf hl
theorem Wk.callS (w : Wk p l e R s m args below meth c Z a0 EL n0 own nw st vm0 h g cells slots) (hx : p.tables.exec = Jvm.exec) {y : MethodName} {bytes : ByteArray} {maxL : Nat} {ret : Option FieldType} {index W kc ks : Nat} {as' : List Value} {wr : List Addr} {Q : Option Value → Heap → Prop}
    (w1 : (Cond.methodLink own index y).before a0 Z = true) (w2 : (Cond.static y).before a0 Z = true) (w3 : (Cond.initialized y.cls).before a0 Z = true) (w4 : (Cond.code y bytes maxL ret).before a0 Z = true) (hy : y.cls ≠ "java/lang/invoke/MethodHandle" ∧ y.cls ≠ "java/lang/invoke/VarHandle")
    (P : Pay l R p e below (s.setVm vm0) args y W as' h kc ks n0 wr Q) (hg : g.method = m) (hsize : g.locals.size = c.maxLocals) (rest : List Value) (hlen : ∀ sig, parseMethodDescriptor y.desc = some sig → as'.length = sig.parameters.length) (hstack : g.stack = as'.reverse ++ rest) (hW : 2 * g.monitorRoom + (rest.map fun v => v.category).sum ≤ W)
    (hd : decode c.code g.pc = .ok (.invokestatic index, 3)) (hc : cells + kc ≤ R.cells) (hl : slots + ks ≤ R.slots) (sf : ∀ x ∈ wr, Safe Z EL vm0 h x) (g' : Option Value → JFrame) (hg' : ∀ v, g' v = { g with pc := g.pc + 3, stack := v.toList ++ rest }) :
    ∃ v h', Q v h' ∧ Keep h h' wr ∧ h.size ≤ h'.size ∧ Wk p l e R s m args below meth c Z a0 EL n0 own nw st vm0 h' (g' v) (cells + kc) (slots + ks) := by
  obtain ⟨T, locs, k0, X, eT, hS, hk, hZ, hown, N, hnw, hE, hC, -, pre⟩ := w
  have hZ' : Z.Warmed39 (s.setVm vm0).vm := hZ
  obtain ⟨v, _, ⟨T', L', k', n'⟩, -, X', ⟨L, ⟨hQ, hK, hN⟩, l1, l2, l3⟩, st'⟩ := Jvm.LawKit.callS X hx (y := y) hown (mvT hZ' w1) (mvT hZ' w2) (mvT hZ' w3) (mvT hZ' w4) hy P hg hsize hlen hstack hW hd (fun _ _ => ⟨rfl, eT, hc, hl⟩)
  dsimp only [Pt.U, Pt.locs, Pt.cells, Pt.slots] at X' l1 l2 l3 st' hQ hK
  subst l1 l2 l3
  exact ⟨v, T'.heap, hQ, hK, hK.1, T', _, k0, X', rfl, hS, Nat.le_trans hk hK.1, hZ, hown, Fr.app N hN, hnw, hE, hC.trans (CHr.keep hK sf hC.1), hx, fun t k => pre t (st' t (hg' v ▸ k))⟩
theorem Wk.callI (w : Wk p l e R s m args below meth c Z a0 EL n0 own nw st vm0 h g cells slots) (hx : p.tables.exec = Jvm.exec) {y : MethodName} {bytes : ByteArray} {maxL : Nat} {index W kc ks : Nat} {a : Addr} {as' : List Value} {wr : List Addr} {Q : Option Value → Heap → Prop}
    (hy1 : y.name = "<init>") (w1 : (Cond.methodLink own index y).before a0 Z = true) (w2 : (Cond.instanceMethod y).before a0 Z = true) (w4 : (Cond.code y bytes maxL none).before a0 Z = true) (hy : y.cls ≠ "java/lang/invoke/MethodHandle" ∧ y.cls ≠ "java/lang/invoke/VarHandle")
    (P : Pay l R p e below (s.setVm vm0) args y W (.ref a :: as') h kc ks n0 wr Q) (hg : g.method = m) (hsize : g.locals.size = c.maxLocals) (rest : List Value) (hlen : ∀ sig, parseMethodDescriptor y.desc = some sig → as'.length = sig.parameters.length) (hstack : g.stack = as'.reverse ++ .ref a :: rest) (hW : 2 * g.monitorRoom + (rest.map fun v => v.category).sum ≤ W)
    (hd : decode c.code g.pc = .ok (.invokespecial index, 3)) (hc : cells + kc ≤ R.cells) (hl : slots + ks ≤ R.slots) (sf : ∀ x ∈ wr, Safe Z EL vm0 h x) (g' : Option Value → JFrame) (hg' : ∀ v, g' v = { g with pc := g.pc + 3, stack := v.toList ++ rest }) :
    ∃ v h', Q v h' ∧ Keep h h' wr ∧ h.size ≤ h'.size ∧ Wk p l e R s m args below meth c Z a0 EL n0 own nw st vm0 h' (g' v) (cells + kc) (slots + ks) := by
  obtain ⟨T, locs, k0, X, eT, hS, hk, hZ, hown, N, hnw, hE, hC, -, pre⟩ := w
  have hZ' : Z.Warmed39 (s.setVm vm0).vm := hZ
  obtain ⟨v, _, ⟨T', L', k', n'⟩, -, X', ⟨L, ⟨hQ, hK, hN⟩, l1, l2, l3⟩, st'⟩ := X.specialBack hx (y := y) hy1 hown (mvT hZ' w1) (mvT hZ' w2) (mvT hZ' w4) hy P hg hsize (Steps.refl _) hlen hstack hW hd (fun _ _ => ⟨rfl, eT, hc, hl⟩)
  dsimp only [Pt.U, Pt.locs, Pt.cells, Pt.slots] at X' l1 l2 l3 st' hQ hK
  subst l1 l2 l3
  exact ⟨v, T'.heap, hQ, hK, hK.1, T', _, k0, X', rfl, hS, Nat.le_trans hk hK.1, hZ, hown, Fr.app N hN, hnw, hE, hC.trans (CHr.keep hK sf hC.1), hx, fun t k => pre t (st'.trans (hg' v ▸ k))⟩
theorem Wk.callV (w : Wk p l e R s m args below meth c Z a0 EL n0 own nw st vm0 h g cells slots) (hx : p.tables.exec = Jvm.exec) {C : String} {y z : MethodName} {index W kc ks : Nat} {a : Addr} {as' : List Value} {wr : List Addr} {Q : Option Value → Heap → Prop}
    (w1 : (Cond.methodLink own index y).before a0 Z = true) (w2 : (Cond.declares y).before a0 Z = true) (w3 : (Cond.selects C y z).before a0 Z = true) (w4 : (Cond.instanceMethod z).before a0 Z = true) (nf : NotFace (s.setVm vm0) y) (hy : y.cls ≠ "java/lang/invoke/MethodHandle" ∧ y.cls ≠ "java/lang/invoke/VarHandle")
    (P : Pay l R p e below (s.setVm vm0) args z W (.ref a :: as') h kc ks n0 wr Q) (E : Exa Z h a C) (hg : g.method = m) (hsize : g.locals.size = c.maxLocals) (rest : List Value) (hlen : ∀ sig, parseMethodDescriptor y.desc = some sig → as'.length = sig.parameters.length) (hstack : g.stack = as'.reverse ++ .ref a :: rest) (hW : 2 * g.monitorRoom + (rest.map fun v => v.category).sum ≤ W)
    (hd : decode c.code g.pc = .ok (.invokevirtual index, 3)) (hc : cells + kc ≤ R.cells) (hl : slots + ks ≤ R.slots) (sf : ∀ x ∈ wr, Safe Z EL vm0 h x) (g' : Option Value → JFrame) (hg' : ∀ v, g' v = { g with pc := g.pc + 3, stack := v.toList ++ rest }) :
    ∃ v h', Q v h' ∧ Keep h h' wr ∧ h.size ≤ h'.size ∧ Wk p l e R s m args below meth c Z a0 EL n0 own nw st vm0 h' (g' v) (cells + kc) (slots + ks) := by
  obtain ⟨T, locs, k0, X, eT, hS, hk, hZ, hown, N, hnw, hE, hC, -, pre⟩ := w
  have hZ' : Z.Warmed39 (s.setVm vm0).vm := hZ
  obtain ⟨cB, kB, q1, -, q3⟩ := isOf (s := s.setVm vm0) hZ' eT E
  obtain ⟨v, _, ⟨T', L', k', n'⟩, -, X', ⟨L, ⟨hQ, hK, hN⟩, l1, l2, l3⟩, st'⟩ := X.virtualBack hx (y := y) (z := z) hown (mvT hZ' w1) (mvT hZ' w2) nf (mvT hZ' w3) (mvT hZ' w4) hy P q1 q3 hg hsize (Steps.refl _) hlen hstack hW hd (fun _ _ => ⟨rfl, eT, hc, hl⟩)
  dsimp only [Pt.U, Pt.locs, Pt.cells, Pt.slots] at X' l1 l2 l3 st' hQ hK
  subst l1 l2 l3
  exact ⟨v, T'.heap, hQ, hK, hK.1, T', _, k0, X', rfl, hS, Nat.le_trans hk hK.1, hZ, hown, Fr.app N hN, hnw, hE, hC.trans (CHr.keep hK sf hC.1), hx, fun t k => pre t (st'.trans (hg' v ▸ k))⟩
theorem sfNil {x : Addr} : x ∈ ([] : List Addr) → Safe Z EL vm0 h x := fun q => nomatch q
theorem sfOne {a : Addr} (sf : Safe Z EL vm0 h a) : ∀ x ∈ [a], Safe Z EL vm0 h x := fun x q => by cases List.mem_singleton.mp q; exact sf
theorem Wk.nf (w : Wk p l e R s m args below meth c Z a0 EL n0 own nw st vm0 h g cells slots) {C : String} {y : MethodName} (w3 : (Cond.selects C y y).before a0 Z = true) : NotFace (s.setVm vm0) y := notFace_of_selects (args := #[]) (mvT (s := s.setVm vm0) w.hZ w3)
/-! the end of a body -/
theorem Wk.out (w : Wk p l e R s m args below meth c Z a0 EL n0 own nw st vm0 h g cells slots) {v : Option Value} (hv : meth.sig.returnType = none → v = none) (hlk : meth.locks = false)
    (hret : ∀ {T : State} {locs : List Loc} {fs : List Frame}, Stand p l e R (s.setVm vm0) m args below meth c T locs cells slots → (∀ (f : JFrame) (acts : List Action), f.method = m → f.locked = none → f.entered = [] → (doReturn e (T.setTop f) acts v).1 = T.setFrames fs) → Steps p.tables e below (T.setTop g) (T.setFrames fs)) :
    ∃ s₂ L, Steps p.tables e below st s₂ ∧ s₂.status = .running ∧ Ended s₂ below (.returned v) ∧ s₂.heap = h ∧ Fr n0 L ∧ (nw = true → FrameEnd s (.returned v) s₂ L cells slots) ∧ ReturnedEndW s (.returned v) s₂ L cells slots ∧ CHr Z EL s.vm s.heap s₂.vm s₂.heap := by
  obtain ⟨T, locs, k0, X, eT, hS, hk, hZ, hown, N, hnw, hE, hC, hx, pre⟩ := w
  subst eT
  obtain ⟨fs, hr, h1, h2, hW, hs⟩ := X.leave hv hlk
  obtain ⟨b1, b2, b3⟩ := hS.ended (U := T.setFrames fs) hW hk hs
  refine ⟨T.setFrames fs, locs, pre _ (hret X hr), h1, h2, rfl, N, fun q => ?_, ⟨⟨v, rfl⟩, b1, b2, b3⟩, hC.trans (show CHr Z EL vm0 T.heap (T.setFrames fs).vm (T.setFrames fs).heap from CHv.at (T := T) X hZ hE hC.1)⟩
  have e0 := hnw q
  subst e0
  exact ⟨⟨v, rfl⟩, hW, hs⟩
theorem Wk.endN (w : Wk p l e R s m args below meth c Z a0 EL n0 own true st vm0 h g cells slots) {v : Option Value} {Q : Option Value → Heap → Prop} {wr : List Addr} {h0 : Heap} {kc ks : Nat} (hv : meth.sig.returnType = none → v = none) (hlk : meth.locks = false)
    (hret : ∀ {T : State} {locs : List Loc} {fs : List Frame}, Stand p l e R (s.setVm vm0) m args below meth c T locs cells slots → (∀ (f : JFrame) (acts : List Action), f.method = m → f.locked = none → f.entered = [] → (doReturn e (T.setTop f) acts v).1 = T.setFrames fs) → Steps p.tables e below (T.setTop g) (T.setFrames fs))
    (hc : cells ≤ kc) (hl : slots ≤ ks) (hQ : Q v h) (hK : Keep h0 h wr) :
    ∃ s₂ o, Steps p.tables e below st s₂ ∧ s₂.status = .running ∧ Ended s₂ below o ∧ ∃ v L, o = .returned v ∧ (Q v s₂.heap ∧ Keep h0 s₂.heap wr ∧ Fr n0 L) ∧ FrameEnd s o s₂ L kc ks := by
  obtain ⟨s₂, L, h1, h2, h3, h4, h5, h6, -, -⟩ := w.out hv hlk hret
  have F := h6 rfl
  exact ⟨s₂, _, h1, h2, h3, v, L, rfl, ⟨h4 ▸ hQ, h4 ▸ hK, h5⟩, F.1, F.2.1, F.2.2.mono hc hl⟩
def EndsN (p : Program) (e : Env) (below : List Frame) (st s : State) (n0 : Nat) (h0 : Heap) (wr : List Addr) (Q : Option Value → Heap → Prop) (kc ks : Nat) : Prop :=
  ∃ s₂ o, Steps p.tables e below st s₂ ∧ s₂.status = .running ∧ Ended s₂ below o ∧ ∃ v L, o = .returned v ∧ (Q v s₂.heap ∧ Keep h0 s₂.heap wr ∧ Fr n0 L) ∧ FrameEnd s o s₂ L kc ks
end OwnKit
end Jvm.Pilot.@@N@@
namespace Jvm.Pilot.@@N@@
open Jvm Jvm.ClassFile Sem Op Lib Jvm.Free Jvm.Stand Jvm.LawKit Jvm.RoadKit Bundle Jvm.Pilot.@@N@@.Jvm.D
section OwnWide
variable {p : Program} {l : Launch} {e : Env} {R : Room} {s : State} {m : MethodId} {args : Array Value} {below : List Frame} {meth : Method} {c : Code} {Z : State} {a0 : Array Value} {EL : List (String × Nat)} {n0 : Nat} {own : String} {nw : Bool} {st : State} {vm0 : Vm} {h : Heap} {g g' : JFrame} {cells slots : Nat}
theorem chs {vm1 : Vm} {h' : Heap} (A : CHr Z EL vm0 h vm1 h') {x : Nat} (hx : h.size > x) (S : Safe Z EL vm0 h x) : Safe Z EL vm1 h' x := A.safe hx S
/-- who pays a call that may intern -/
def PayW (l : Launch) (R : Room) (p : Program) (e : Env) (below : List Frame) (s : State) (args : Array Value) (y : MethodName) (W : Nat) (as' : List Value) (h : Heap) (kc ks n0 : Nat) (wr : List Addr) (Q : Option Value → Heap → Prop) (Z : State) (EL : List (String × Nat)) (vm0 : Vm) : Prop :=
  BackS l R p e below s args y 3 W (fun P a => a = as'.toArray ∧ P.U.heap = h ∧ P.cells + kc ≤ R.cells ∧ P.slots + ks ≤ R.slots) (fun P _ v B => ∃ L, (Q v B.U.heap ∧ Keep h B.U.heap wr ∧ Fr n0 L) ∧ B.locs = P.locs ++ L ∧ B.cells = P.cells + kc ∧ B.slots = P.slots + ks ∧ CHr Z EL vm0 h B.U.vm B.U.heap)
/-- a contract of a body that may intern -/
def WMet (l : Launch) (Z : State) (EL : List (String × Nat)) (y : MethodName) (bytes : ByteArray) (maxL : Nat) (ret : Option FieldType) (ws : List Jvm.Cond) (rm : Room) (as' : List Value) (h : Heap) (n0 : Nat) (sf : List Addr) (wr : List Addr) (Q : Option Value → Heap → Prop) : Prop :=
  MetFree l y (head1 (Jvm.Cond.code y bytes maxL ret :: ws) rm) (fun a U => a = as'.toArray ∧ Z.Warmed39 U.vm ∧ U.heap = h ∧ CHv Z EL U.vm h ∧ ∀ x ∈ sf, Safe Z EL U.vm h x) (fun _ _ _ _ _ => True) (fun _ U o U' => ∃ v L, o = .returned v ∧ (Q v U'.heap ∧ Keep h U'.heap wr ∧ Fr n0 L) ∧ CHr Z EL U.vm U.heap U'.vm U'.heap ∧ ReturnedEndW U o U' L rm.cells rm.slots)
theorem Wk.ew (w : Wk p l e R s m args below meth c Z a0 EL n0 own nw st vm0 h g cells slots) : EW Z a0 EL := by
  obtain ⟨T, locs, k0, X, eT, hS, hk, hZ, hown, N, hnw, hE, hC, hx, pre⟩ := w; exact hE
theorem WMet.pay {y : MethodName} {bytes : ByteArray} {maxL : Nat} {ret : Option FieldType} {rm : Room} {as' : List Value} {sf wr : List Addr} {Q : Option Value → Heap → Prop} {W : Nat} (M : WMet l Z EL y bytes maxL ret [] rm as' h n0 sf wr Q)
    (hw : Wk p l e R s m args below meth c Z a0 EL n0 own nw st vm0 h g cells slots) (wc : (Cond.code y bytes maxL ret).before a0 Z = true) (wz : (Cond.initialized y.cls).before a0 Z = true) (hf : rm.frames + 1 ≤ R.frames) (hl : W + (maxL + 11) + rm.locals ≤ R.locals) (hsf : ∀ x ∈ sf, h.size > x ∧ Safe Z EL vm0 h x) :
    PayW l R p e below (s.setVm vm0) args y W as' h rm.cells rm.slots n0 wr Q Z EL vm0 := by
  have hZ : Z.Warmed39 vm0 := hw.hZ
  have hEL := hw.ew
  have H := hw.chv
  refine BackS.of_freeW (bytes := bytes) (maxL := maxL) (ret := ret) (E := fun _ first o t L k n => k = rm.cells ∧ n = rm.slots ∧ (∃ v, o = .returned v ∧ (Q v t.heap ∧ Keep h t.heap wr ∧ Fr n0 L)) ∧ CHr Z EL first.vm first.heap t.vm t.heap) M hf hl ?_ ?_ ?_ ?_ ?_
  · intro m meth c A a Y hp
    have hU : Z.Warmed39 A.U.vm := wtrans (s := s.setVm vm0) hZ Y.warmed
    exact ⟨by show (Cond.and _ .tt).before a A.U = true; rw [Cond.before_and, mv hU wc]; rfl, mv hU wc, mv hU wz, hp.2.2.1, hp.2.2.2⟩
  · intro m meth c A a g mk Y hp
    have C := CHv.at Y hZ hEL H
    exact ⟨hp.1, wtrans (s := s.setVm vm0) hZ Y.warmed, hp.2.1, C.1, fun x hx => C.safe (hsf x hx).1 (hsf x hx).2⟩
  · exact fun _ _ _ _ _ _ _ _ _ => trivial
  · exact fun _ _ _ _ ⟨v, L, h1, h2, h3, h4⟩ => ⟨L, _, _, h4, rfl, rfl, ⟨v, h1, h2⟩, h3⟩
  · intro m meth c A a g mk v t L k n Y hp _ _ q
    obtain ⟨e1, e2, ⟨v', e3, e4⟩, e5⟩ := q
    cases e3; subst e1 e2
    refine ⟨L, e4, rfl, rfl, rfl, (CHv.at Y hZ hEL H).trans ?_⟩
    rw [← hp.2.1]; exact e5
theorem Wk.callSW (w : Wk p l e R s m args below meth c Z a0 EL n0 own false st vm0 h g cells slots) (hx : p.tables.exec = Jvm.exec) {y : MethodName} {bytes : ByteArray} {maxL : Nat} {ret : Option FieldType} {index W kc ks : Nat} {as' : List Value} {wr : List Addr} {Q : Option Value → Heap → Prop}
    (w1 : (Cond.methodLink own index y).before a0 Z = true) (w2 : (Cond.static y).before a0 Z = true) (w3 : (Cond.initialized y.cls).before a0 Z = true) (w4 : (Cond.code y bytes maxL ret).before a0 Z = true) (hy : y.cls ≠ "java/lang/invoke/MethodHandle" ∧ y.cls ≠ "java/lang/invoke/VarHandle")
    (P : PayW l R p e below (s.setVm vm0) args y W as' h kc ks n0 wr Q Z EL vm0) (hg : g.method = m) (hsize : g.locals.size = c.maxLocals) (rest : List Value) (hlen : ∀ sig, parseMethodDescriptor y.desc = some sig → as'.length = sig.parameters.length) (hstack : g.stack = as'.reverse ++ rest) (hW : 2 * g.monitorRoom + (rest.map fun v => v.category).sum ≤ W)
    (hd : decode c.code g.pc = .ok (.invokestatic index, 3)) (hc : cells + kc ≤ R.cells) (hl : slots + ks ≤ R.slots) (g' : Option Value → JFrame) (hg' : ∀ v, g' v = { g with pc := g.pc + 3, stack := v.toList ++ rest }) :
    ∃ v vm1 h', Q v h' ∧ Keep h h' wr ∧ h.size ≤ h'.size ∧ CHr Z EL vm0 h vm1 h' ∧ Wk p l e R s m args below meth c Z a0 EL n0 own false st vm1 h' (g' v) (cells + kc) (slots + ks) := by
  obtain ⟨T, locs, k0, X, eT, hS, hk, hZ, hown, N, hnw, hE, hC, -, pre⟩ := w
  have hZ' : Z.Warmed39 (s.setVm vm0).vm := hZ
  obtain ⟨v, _, ⟨T', L', k', n'⟩, -, X', hS', hgr, ⟨L, ⟨hQ, hK, hN⟩, l1, l2, l3, hC'⟩, st'⟩ := RoadKit.callSS X hx (y := y) hown (mvT hZ' w1) (mvT hZ' w2) (mvT hZ' w3) (mvT hZ' w4) hy P hg hsize hlen hstack hW hd (fun _ _ => ⟨rfl, eT, hc, hl⟩)
  dsimp only [Pt.U, Pt.locs, Pt.cells, Pt.slots] at X' l1 l2 l3 st' hQ hK hS' hgr hC'
  subst l1 l2 l3
  obtain ⟨X2, S2, Z2, O2⟩ := rebS (own := own) (n1 := T.heap.size) hS (by rw [eT]; exact hk) X' hS' hgr hZ' hown
  exact ⟨v, T'.vm, T'.heap, hQ, hK, hK.1, hC', T', _, T'.heap.size, X2, rfl, S2, Nat.le_refl _, Z2, O2, Fr.app N hN, (fun q => nomatch q), hE, hC.trans hC', hx, fun t k => pre t (st'.trans (hg' v ▸ k))⟩
theorem Wk.callIW (w : Wk p l e R s m args below meth c Z a0 EL n0 own false st vm0 h g cells slots) (hx : p.tables.exec = Jvm.exec) {y : MethodName} {bytes : ByteArray} {maxL : Nat} {index W kc ks : Nat} {a : Addr} {as' : List Value} {wr : List Addr} {Q : Option Value → Heap → Prop}
    (hy1 : y.name = "<init>") (w1 : (Cond.methodLink own index y).before a0 Z = true) (w2 : (Cond.instanceMethod y).before a0 Z = true) (w4 : (Cond.code y bytes maxL none).before a0 Z = true) (hy : y.cls ≠ "java/lang/invoke/MethodHandle" ∧ y.cls ≠ "java/lang/invoke/VarHandle")
    (P : PayW l R p e below (s.setVm vm0) args y W (.ref a :: as') h kc ks n0 wr Q Z EL vm0) (hg : g.method = m) (hsize : g.locals.size = c.maxLocals) (rest : List Value) (hlen : ∀ sig, parseMethodDescriptor y.desc = some sig → as'.length = sig.parameters.length) (hstack : g.stack = as'.reverse ++ .ref a :: rest) (hW : 2 * g.monitorRoom + (rest.map fun v => v.category).sum ≤ W)
    (hd : decode c.code g.pc = .ok (.invokespecial index, 3)) (hc : cells + kc ≤ R.cells) (hl : slots + ks ≤ R.slots) (g' : Option Value → JFrame) (hg' : ∀ v, g' v = { g with pc := g.pc + 3, stack := v.toList ++ rest }) :
    ∃ v vm1 h', Q v h' ∧ Keep h h' wr ∧ h.size ≤ h'.size ∧ CHr Z EL vm0 h vm1 h' ∧ Wk p l e R s m args below meth c Z a0 EL n0 own false st vm1 h' (g' v) (cells + kc) (slots + ks) := by
  obtain ⟨T, locs, k0, X, eT, hS, hk, hZ, hown, N, hnw, hE, hC, -, pre⟩ := w
  have hZ' : Z.Warmed39 (s.setVm vm0).vm := hZ
  obtain ⟨v, _, ⟨T', L', k', n'⟩, -, X', hS', hgr, ⟨L, ⟨hQ, hK, hN⟩, l1, l2, l3, hC'⟩, st'⟩ := X.specialBackS hx (y := y) hy1 hown (mvT hZ' w1) (mvT hZ' w2) (mvT hZ' w4) hy P hg hsize (Steps.refl _) hlen hstack hW hd (fun _ _ => ⟨rfl, eT, hc, hl⟩)
  dsimp only [Pt.U, Pt.locs, Pt.cells, Pt.slots] at X' l1 l2 l3 st' hQ hK hS' hgr hC'
  subst l1 l2 l3
  obtain ⟨X2, S2, Z2, O2⟩ := rebS (own := own) (n1 := T.heap.size) hS (by rw [eT]; exact hk) X' hS' hgr hZ' hown
  exact ⟨v, T'.vm, T'.heap, hQ, hK, hK.1, hC', T', _, T'.heap.size, X2, rfl, S2, Nat.le_refl _, Z2, O2, Fr.app N hN, (fun q => nomatch q), hE, hC.trans hC', hx, fun t k => pre t (st'.trans (hg' v ▸ k))⟩
theorem Wk.callVW (w : Wk p l e R s m args below meth c Z a0 EL n0 own false st vm0 h g cells slots) (hx : p.tables.exec = Jvm.exec) {C : String} {y z : MethodName} {index W kc ks : Nat} {a : Addr} {as' : List Value} {wr : List Addr} {Q : Option Value → Heap → Prop}
    (w1 : (Cond.methodLink own index y).before a0 Z = true) (w2 : (Cond.declares y).before a0 Z = true) (w3 : (Cond.selects C y z).before a0 Z = true) (w4 : (Cond.instanceMethod z).before a0 Z = true) (nf : NotFace (s.setVm vm0) y) (hy : y.cls ≠ "java/lang/invoke/MethodHandle" ∧ y.cls ≠ "java/lang/invoke/VarHandle")
    (P : PayW l R p e below (s.setVm vm0) args z W (.ref a :: as') h kc ks n0 wr Q Z EL vm0) (E : Exa Z h a C) (hg : g.method = m) (hsize : g.locals.size = c.maxLocals) (rest : List Value) (hlen : ∀ sig, parseMethodDescriptor y.desc = some sig → as'.length = sig.parameters.length) (hstack : g.stack = as'.reverse ++ .ref a :: rest) (hW : 2 * g.monitorRoom + (rest.map fun v => v.category).sum ≤ W)
    (hd : decode c.code g.pc = .ok (.invokevirtual index, 3)) (hc : cells + kc ≤ R.cells) (hl : slots + ks ≤ R.slots) (g' : Option Value → JFrame) (hg' : ∀ v, g' v = { g with pc := g.pc + 3, stack := v.toList ++ rest }) :
    ∃ v vm1 h', Q v h' ∧ Keep h h' wr ∧ h.size ≤ h'.size ∧ CHr Z EL vm0 h vm1 h' ∧ Wk p l e R s m args below meth c Z a0 EL n0 own false st vm1 h' (g' v) (cells + kc) (slots + ks) := by
  obtain ⟨T, locs, k0, X, eT, hS, hk, hZ, hown, N, hnw, hE, hC, -, pre⟩ := w
  have hZ' : Z.Warmed39 (s.setVm vm0).vm := hZ
  obtain ⟨cB, kB, q1, -, q3⟩ := isOf (s := s.setVm vm0) hZ' eT E
  obtain ⟨v, _, ⟨T', L', k', n'⟩, -, X', hS', hgr, ⟨L, ⟨hQ, hK, hN⟩, l1, l2, l3, hC'⟩, st'⟩ := X.virtualBackS hx (y := y) (z := z) hown (mvT hZ' w1) (mvT hZ' w2) nf (mvT hZ' w3) (mvT hZ' w4) hy P q1 q3 hg hsize (Steps.refl _) hlen hstack hW hd (fun _ _ => ⟨rfl, eT, hc, hl⟩)
  dsimp only [Pt.U, Pt.locs, Pt.cells, Pt.slots] at X' l1 l2 l3 st' hQ hK hS' hgr hC'
  subst l1 l2 l3
  obtain ⟨X2, S2, Z2, O2⟩ := rebS (own := own) (n1 := T.heap.size) hS (by rw [eT]; exact hk) X' hS' hgr hZ' hown
  exact ⟨v, T'.vm, T'.heap, hQ, hK, hK.1, hC', T', _, T'.heap.size, X2, rfl, S2, Nat.le_refl _, Z2, O2, Fr.app N hN, (fun q => nomatch q), hE, hC.trans hC', hx, fun t k => pre t (st'.trans (hg' v ▸ k))⟩
/-- ldc of a String constant whose text is read -/
theorem Wk.ldcCH (w : Wk p l e R s m args below meth c Z a0 EL n0 own false st vm0 h g cells slots) (hx : p.tables.exec = Jvm.exec) {text : String} {index : Nat} (w1 : (Cond.stringLink own index text).before a0 Z = true) (wS : ∀ a ∈ Bundle.stringAtoms, a.before a0 Z = true) (hmem : (own, index) ∈ EL)
    {vs : List Value} {z : Int32} (ht : (∀ c ∈ text.toList, c.toNat < 256) ∧ text.toList.map (fun c => Value.int (Jvm.Lit.byteI c.toNat.toUInt16)) = vs) (hz : ¬ z < 0) (hl : z.toNatClampNeg = vs.length)
    (hg : g.method = m) (hd : decode c.code g.pc = .ok (.ldc index, 2)) (n : Nat) (hn : 4 * text.toList.length ≤ n) (hbig : n ≤ 536870912) (hc : cells + 2 ≤ R.cells) (hl' : slots + (n + 4) ≤ R.slots) (g' : Addr → JFrame) (hg' : ∀ x, g' x = { g with pc := g.pc + 2, stack := .ref x :: g.stack }) :
    ∃ (a : Nat) (vm1 : Vm) (h' : Heap) (b : Nat) (k : ClassId), Ext h h' ∧ Exa Z h' a "java/lang/String" ∧ Fld Z h' a "java/lang/String" "coder" "B" (.int 0) ∧ Fld Z h' a "java/lang/String" "value" "[B" (.ref b) ∧ Arv Z h' b k .byte z vs (.int 0) ∧ h'.size > a ∧ h'.size > b ∧ CHr Z EL vm0 h vm1 h' ∧ (∀ x : Nat, Safe Z EL vm1 h' x → x ≠ a ∧ x ≠ b) ∧
      Wk p l e R s m args below meth c Z a0 EL n0 own false st vm1 h' (g' a) (cells + 2) (slots + (n + 4)) := by
  obtain ⟨T, locs, k0, X, eT, hS, hk, hZ, hown, N, hnw, hE, hC, -, pre⟩ := w
  obtain ⟨a, T', h', k1, b, k, X', e', E, hS', hk', hZ', hown', q1, q2, q3, q4, q5, q6, q7, -, q8, st'⟩ := RoadKit.ldcCH X hx hZ hown w1 wS eT hS hk hE hmem hC.1 ht hz hl hg hd hn hbig hc hl'
  exact ⟨a, T'.vm, h', b, k, E, q1, q2, q3, q4, q5, q6, q7, q8, T', locs, k1, X', e', hS', hk', hZ', hown', N, (fun q => nomatch q), hE, hC.trans q7, hx, fun t k => pre t (st' t (hg' a ▸ k))⟩
/-- ldc of a String constant, opaque -/
theorem Wk.ldcOH (w : Wk p l e R s m args below meth c Z a0 EL n0 own false st vm0 h g cells slots) (hx : p.tables.exec = Jvm.exec) {text : String} {index : Nat} (w1 : (Cond.stringLink own index text).before a0 Z = true) (wS : ∀ a ∈ Bundle.stringAtoms, a.before a0 Z = true)
    (hg : g.method = m) (hd : decode c.code g.pc = .ok (.ldc index, 2)) (n : Nat) (hn : 4 * text.toList.length ≤ n) (hbig : n ≤ 536870912) (hc : cells + 2 ≤ R.cells) (hl' : slots + (n + 4) ≤ R.slots) (g' : Addr → JFrame) (hg' : ∀ x, g' x = { g with pc := g.pc + 2, stack := .ref x :: g.stack }) :
    ∃ (a : Nat) (vm1 : Vm) (h' : Heap), Ext h h' ∧ CHr Z EL vm0 h vm1 h' ∧ Wk p l e R s m args below meth c Z a0 EL n0 own false st vm1 h' (g' a) (cells + 2) (slots + (n + 4)) := by
  obtain ⟨T, locs, k0, X, eT, hS, hk, hZ, hown, N, hnw, hE, hC, -, pre⟩ := w
  obtain ⟨a, T', h', k1, X', e', E, hS', hk', hZ', hown', q7, -, st'⟩ := RoadKit.ldcOH X hx hZ hown w1 wS eT hS hk hE hC.1 hg hd hn hbig hc hl'
  exact ⟨a, T'.vm, h', E, q7, T', locs, k1, X', e', hS', hk', hZ', hown', N, (fun q => nomatch q), hE, hC.trans q7, hx, fun t k => pre t (st' t (hg' a ▸ k))⟩
theorem Wk.endW (w : Wk p l e R s m args below meth c Z a0 EL n0 own nw st vm0 h g cells slots) {v : Option Value} {Q : Option Value → Heap → Prop} {wr : List Addr} {h0 : Heap} {kc ks : Nat} (hv : meth.sig.returnType = none → v = none) (hlk : meth.locks = false)
    (hret : ∀ {T : State} {locs : List Loc} {fs : List Frame}, Stand p l e R (s.setVm vm0) m args below meth c T locs cells slots → (∀ (f : JFrame) (acts : List Action), f.method = m → f.locked = none → f.entered = [] → (doReturn e (T.setTop f) acts v).1 = T.setFrames fs) → Steps p.tables e below (T.setTop g) (T.setFrames fs))
    (hc : cells ≤ kc) (hl : slots ≤ ks) (hQ : Q v h) (hK : Keep h0 h wr) :
    ∃ s₂ o, Steps p.tables e below st s₂ ∧ s₂.status = .running ∧ Ended s₂ below o ∧ ∃ v L, o = .returned v ∧ (Q v s₂.heap ∧ Keep h0 s₂.heap wr ∧ Fr n0 L) ∧ CHr Z EL s.vm s.heap s₂.vm s₂.heap ∧ ReturnedEndW s o s₂ L kc ks := by
  obtain ⟨s₂, L, h1, h2, h3, h4, h5, -, h6, h7⟩ := w.out hv hlk hret
  exact ⟨s₂, _, h1, h2, h3, v, L, rfl, ⟨h4 ▸ hQ, h4 ▸ hK, h5⟩, h7, h6.1, h6.2.1, h6.2.2.1, h6.2.2.2.mono hc hl⟩
def EndsW (p : Program) (e : Env) (below : List Frame) (st s : State) (Z : State) (EL : List (String × Nat)) (n0 : Nat) (h0 : Heap) (wr : List Addr) (Q : Option Value → Heap → Prop) (kc ks : Nat) : Prop :=
  ∃ s₂ o, Steps p.tables e below st s₂ ∧ s₂.status = .running ∧ Ended s₂ below o ∧ ∃ v L, o = .returned v ∧ (Q v s₂.heap ∧ Keep h0 s₂.heap wr ∧ Fr n0 L) ∧ CHr Z EL s.vm s.heap s₂.vm s₂.heap ∧ ReturnedEndW s o s₂ L kc ks
end OwnWide
end Jvm.Pilot.@@N@@
namespace Jvm.Pilot.@@N@@
open Jvm Jvm.ClassFile Sem Op Lib Jvm.Free Jvm.Stand Jvm.LawKit Jvm.RoadKit Bundle Jvm.Pilot.@@N@@.Jvm.D
section OwnSub
variable {p : Program} {l : Launch} {e : Env} {R : Room} {s : State} {m : MethodId} {args : Array Value} {below : List Frame} {meth : Method} {c : Code} {Z : State} {a0 : Array Value} {EL : List (String × Nat)} {n0 : Nat} {own : String} {nw : Bool} {st : State} {vm0 : Vm} {h : Heap} {g g' : JFrame} {cells slots : Nat}
theorem Wk.cpB (w : Wk p l e R s m args below meth c Z a0 EL n0 own nw st vm0 h g cells slots) (hx : p.tables.exec = Jvm.exec) {index : Nat}
    (w1 : (Cond.methodLink own index Jvm.Stand.acN).before a0 Z = true) (w2 : (Cond.native Jvm.Stand.acN).before a0 Z = true) (w3 : (Cond.static Jvm.Stand.acN).before a0 Z = true) (w4 : (Cond.initialized "java/lang/System").before a0 Z = true)
    {a b : Addr} {k k' : ClassId} {z z' sp dp nn : Int32} {vs vd us : List Value} {dv dd : Value} (A : Arv Z h a k .byte z vs dv) (B : Arv Z h b k' .byte z' vd dd)
    (h1 : ¬ sp < 0) (h2 : ¬ dp < 0) (h3 : ¬ nn < 0) (h4 : sp.toNatClampNeg + nn.toNatClampNeg ≤ z.toNatClampNeg) (h5 : dp.toNatClampNeg + nn.toNatClampNeg ≤ z'.toNatClampNeg)
    (hus : us = (List.range nn.toNatClampNeg).map fun i => vs.getD (sp.toNatClampNeg + i) dv) (hl : dp.toNatClampNeg + nn.toNatClampNeg ≤ vd.length) (ge : n0 ≤ b) (sf : ∀ x ∈ [b], Safe Z EL vm0 h x)
    (hg : g.method = m) (hsize : g.locals.size = c.maxLocals) {rest : List Value} (hs : g.stack = .int nn :: .int dp :: .ref b :: .int sp :: .ref a :: rest) (hd : decode c.code g.pc = .ok (.invokestatic index, 3))
    (hf : 1 ≤ R.frames) {W : Nat} (hW : 2 * g.monitorRoom + (rest.map fun v => v.category).sum ≤ W) (hlo : W + (nativeFrameWords "java/lang/System" "arraycopy" 5 + 11) ≤ R.locals) (g' : JFrame) (hg' : g' = { g with pc := g.pc + 3, stack := rest }) :
    ∃ h', Keep h h' [b] ∧ h.size ≤ h'.size ∧ Arv Z h' b k' .byte z' (vd.take dp.toNatClampNeg ++ us ++ vd.drop (dp.toNatClampNeg + nn.toNatClampNeg)) dd ∧ Wk p l e R s m args below meth c Z a0 EL n0 own nw st vm0 h' g' cells slots := by
  obtain ⟨T, locs, k0, X, eT, hS, hk, hZ, hown, N, hnw, hE, hC, -, pre⟩ := w
  obtain ⟨T', h', L, X', e', N', K, V, st'⟩ := cpA X hx hZ hown w1 w2 w3 w4 eT A B (Or.inl ⟨rfl, rfl⟩) h1 h2 h3 h4 h5 hus hl N ge hg hsize hs hd hf hW hlo
  exact ⟨h', K, K.1, V, T', L, k0, X', e', hS, Nat.le_trans hk K.1, hZ, hown, N', hnw, hE, hC.trans (CHr.keep K sf hC.1), hx, fun t q => pre t (st' t (hg' ▸ q))⟩
theorem i_toInt {a : Nat} (h : a ≤ 4000) : (Int32.ofNat a).toInt = a := Int32.toInt_ofNat_of_lt (by omega)
theorem i_clamp {a : Nat} (h : a ≤ 4000) : (Int32.ofNat a).toNatClampNeg = a := by show (Int32.ofNat a).toInt.toNat = a; rw [i_toInt h]; omega
theorem i_nn {a : Nat} (h : a ≤ 4000) : ¬ Int32.ofNat a < 0 := by rw [Int32.lt_iff_toInt_lt, i_toInt h]; show ¬ (a : Int) < 0; omega
theorem i_lt {a b : Nat} (ha : a ≤ 4000) (hb : b ≤ 4000) : Int32.ofNat a < Int32.ofNat b ↔ a < b := by rw [Int32.lt_iff_toInt_lt, i_toInt ha, i_toInt hb]; omega
theorem i_eq {a b : Nat} (ha : a ≤ 4000) (hb : b ≤ 4000) : Int32.ofNat a = Int32.ofNat b ↔ a = b := by rw [← Int32.toInt_inj, i_toInt ha, i_toInt hb]; omega
theorem i_add (a b : Nat) : Int32.ofNat a + Int32.ofNat b = Int32.ofNat (a + b) := (Int32.ofNat_add a b).symm
theorem i_sub (b n : Nat) : Int32.ofNat (b + n) - Int32.ofNat b = Int32.ofNat n := by rw [Nat.add_comm, ← i_add]; exact Int32.add_sub_cancel _ _
theorem i_pred (n : Nat) : Int32.ofNat (n + 1) - (1 : Int32) = Int32.ofNat n := by rw [show (1 : Int32) = Int32.ofNat 1 from rfl, Nat.add_comm, i_sub]
theorem i_dec (n : Nat) : Int32.ofNat n + (-1 : Int32) = Int32.ofNat n - (1 : Int32) := (Int32.sub_eq_add_neg _ _).symm
/-- where ch stands last among the first n -/
def own_lix (cs : List Int32) (ch : Int32) : Nat → Int32
  | 0 => (-1 : Int32)
  | n + 1 => if cs.getD n 0 = ch then Int32.ofNat n else own_lix cs ch n
def own_sl (cs : List Int32) (b n : Nat) : List Int32 := (cs.drop b).take n
def own_slb (cs : List Int32) (b n : Nat) : List Value := ((own_sl cs b n).map (fun c => c.toInt8.toInt32)).map Value.int
theorem own_sl_len {cs : List Int32} {b n : Nat} (h : b + n ≤ cs.length) : (own_sl cs b n).length = n := by unfold own_sl; rw [List.length_take, List.length_drop]; omega
theorem own_sl_rng {cs : List Int32} {b n : Nat} (hr : ∀ c ∈ cs, ¬ c < 0 ∧ ¬ (255 : Int32) < c) : ∀ c ∈ own_sl cs b n, ¬ c < 0 ∧ ¬ (255 : Int32) < c := fun c q => hr c (List.mem_of_mem_drop (List.mem_of_mem_take q))
theorem own_copy {cs : List Int32} {b n : Nat} (h : b + n ≤ cs.length) (dv : Value) : (List.range n).map (fun i => ((cs.map (fun c => c.toInt8.toInt32)).map Value.int).getD (b + i) dv) = own_slb cs b n := by
  unfold own_slb
  apply List.ext_getElem
  · simp [own_sl_len h]
  · intro i h1 h2
    simp only [List.length_map, List.length_range] at h1
    simp [own_sl, List.getD_eq_getElem?_getD, show b + i < cs.length by omega]
theorem own_b8 {c : Int32} (hc : ¬ c < 0 ∧ ¬ (255 : Int32) < c) {d : Int32} (hd : ¬ d < 0 ∧ ¬ (127 : Int32) < d) (q : c.toInt8.toInt32 = d.toInt8.toInt32) : c = d := by
  have e := congrArg Int32.toInt q
  simp only [Int8.toInt_toInt32, Int32.toInt_toInt8, Int32.lt_iff_toInt_lt, show (0 : Int32).toInt = 0 from rfl, show (255 : Int32).toInt = 255 from rfl, show (127 : Int32).toInt = 127 from rfl] at e hc hd
  apply Int32.toInt_inj.mp
  rw [Int.bmod_def, Int.bmod_def] at e
  omega
end OwnSub
end Jvm.Pilot.@@N@@
namespace Jvm.Pilot.@@N@@
open Jvm Jvm.ClassFile Sem Op Lib Jvm.Free Jvm.Stand Jvm.LawKit Jvm.RoadKit Bundle Jvm.Pilot.@@N@@.Jvm.D
section OwnStrB
variable {p : Program} {l : Launch} {e : Env} {R : Room} {s : State} {args : Array Value} {below : List Frame} {Z : State} {a0 : Array Value} {n0 : Nat} {h h' : Heap} {W : Nat} {x : Nat} {cs : List Int32} {b : Nat}
theorem up255 {c : Int32} (q : ¬ (255 : Int32) < c) : ¬ (65535 : Int32) < c := fun r => q (by rw [Int32.lt_iff_toInt_lt] at r ⊢; have e1 : (65535 : Int32).toInt = 65535 := rfl; have e2 : (255 : Int32).toInt = 255 := rfl; omega)
/-- the object x is a String of Latin-1 chars cs; it and its bytes lie below b -/
def Str (Z : State) (h : Heap) (x : Nat) (cs : List Int32) (b : Nat) : Prop := ∃ (t : Nat) (kb : ClassId), Exa Z h x "java/lang/String" ∧ Fld Z h x "java/lang/String" "value" "[B" (.ref t) ∧ Fld Z h x "java/lang/String" "coder" "B" (.int 0) ∧ Arv Z h t kb .byte (Int32.ofNat cs.length) ((cs.map (fun c => c.toInt8.toInt32)).map Value.int) (.int 0) ∧ (∀ c ∈ cs, ¬ c < 0 ∧ ¬ (255 : Int32) < c) ∧ cs.length ≤ 4000 ∧ b > x ∧ b > t
theorem Str.exa (F : Str Z h x cs b) : Exa Z h x "java/lang/String" := by obtain ⟨t, kb, E, r⟩ := F; exact E
theorem Str.lt (F : Str Z h x cs b) : b > x := by obtain ⟨t, kb, -, -, -, -, -, -, q, -⟩ := F; exact q
theorem Str.rng (F : Str Z h x cs b) : ∀ c ∈ cs, ¬ c < 0 ∧ ¬ (255 : Int32) < c := by obtain ⟨t, kb, -, -, -, -, q, -⟩ := F; exact q
theorem Str.len (F : Str Z h x cs b) : cs.length ≤ 4000 := by obtain ⟨t, kb, -, -, -, -, -, q, -⟩ := F; exact q
theorem Str.more (F : Str Z h x cs b) {b' : Nat} (q : b ≤ b') : Str Z h x cs b' := by
  obtain ⟨t, kb, E, V, C, K, r2, r3, r4, r5⟩ := F
  exact ⟨t, kb, E, V, C, K, r2, r3, Nat.lt_of_lt_of_le r4 q, Nat.lt_of_lt_of_le r5 q⟩
theorem Str.ext (F : Str Z h x cs b) (X : Ext h h') : Str Z h' x cs b := by
  obtain ⟨t, kb, E, V, C, K, r⟩ := F
  exact ⟨t, kb, E.ext X, V.ext X, C.ext X, K.ext X, r⟩
theorem Str.keep (F : Str Z h x cs b) {ws : List Addr} (X : Keep h h' ws) (q : ∀ y ∈ ws, b ≤ y) : Str Z h' x cs b := by
  obtain ⟨t, kb, E, V, C, K, r2, r3, r4, r5⟩ := F
  have nx : x ∉ ws := fun z => by have := q x z; omega
  have nt : t ∉ ws := fun z => by have := q t z; omega
  exact ⟨t, kb, E.keep X, V.keep X nx, C.keep X nx, K.keep X nt, r2, r3, r4, r5⟩
theorem Str.wr (F : Str Z h x cs b) {a : Addr} {sl : Nat} {v : Value} (X : Wr h h' a sl v) (q : b ≤ a) : Str Z h' x cs b := F.keep (Keep.of_wr X) (fun y hy => by cases List.mem_singleton.mp hy; exact q)
theorem Str.keepO (F : Str Z h x cs b) {y : Nat} (X : Keep h h' [y]) {C : String} {n : Nat} (E : Exa Z h y C) (hC : C ≠ "java/lang/String") (wi : (Jvm.Cond.instantiable C n).before a0 Z = true) : Str Z h' x cs b := by
  obtain ⟨t, kb, E', V, C', K, r2, r3, r4, r5⟩ := F
  have nx : x ∉ [y] := fun z => by cases List.mem_singleton.mp z; exact Exa.ne E E' hC rfl
  have nt : t ∉ [y] := fun z => by cases List.mem_singleton.mp z; exact Exa.neArv E K wi rfl
  exact ⟨t, kb, E'.keep X, V.keep X nx, C'.keep X nx, K.keep X nt, r2, r3, r4, r5⟩
theorem Str.of (E : Exa Z h x "java/lang/String") {t : Addr} {kb : ClassId} {z : Int32} {vs : List Value} (V : Fld Z h x "java/lang/String" "value" "[B" (.ref t)) (C : Fld Z h x "java/lang/String" "coder" "B" (.int 0)) (K : Arv Z h t kb .byte z vs (.int 0)) (hz : z = Int32.ofNat cs.length) (hv : vs = (cs.map (fun c => c.toInt8.toInt32)).map Value.int) (hp : ∀ c ∈ cs, ¬ c < 0 ∧ ¬ (255 : Int32) < c) (hl : cs.length ≤ 4000) (h1 : b > x) (h2 : b > t) : Str Z h x cs b :=
  ⟨t, kb, E, V, C, by subst hz hv; exact K, hp, hl, h1, h2⟩
end OwnStrB
end Jvm.Pilot.@@N@@
namespace Jvm.Pilot.@@N@@
open Jvm Jvm.ClassFile Sem Op Lib Jvm.Free Jvm.Stand Jvm.LawKit Jvm.RoadKit Bundle Jvm.Pilot.@@N@@.Jvm.D
section OwnStr
variable {p : Program} {l : Launch} {e : Env} {R : Room} {s : State} {args : Array Value} {below : List Frame} {Z : State} {a0 : Array Value} {n0 : Nat} {h h' : Heap} {W : Nat}
theorem nar_i2c (x : Int32) : nar .char (x.toUInt32.toUInt16.toUInt32.toInt32) = x.toUInt32.toUInt16.toUInt32.toInt32 := by simp only [nar, UInt32.toUInt32_toInt32, UInt16.toUInt16_toUInt32]
theorem nar_255 (x : Int32) : nar .char (x &&& (255 : Int32)) = x &&& (255 : Int32) := i2c_mask x
theorem and255_rng (x : Int32) : ¬ (x &&& (255 : Int32)) < 0 ∧ ¬ (255 : Int32) < (x &&& (255 : Int32)) := by
  have q := c_and x (255 : Int32) (by decide)
  have e1 : (255 : Int32).toInt = 255 := rfl
  have e2 : (0 : Int32).toInt = 0 := rfl
  simp only [Int32.lt_iff_toInt_lt, e1, e2] at q ⊢
  omega
theorem rng_ite {P : Prop} [Decidable P] {a b : Int32} (h1 : ¬ a < 0 ∧ ¬ (255 : Int32) < a) (h2 : ¬ b < 0 ∧ ¬ (255 : Int32) < b) : ¬ (if P then a else b) < 0 ∧ ¬ (255 : Int32) < (if P then a else b) := by split <;> assumption
theorem nar_rng {x : Int32} (h : ¬ x < 0 ∧ ¬ (255 : Int32) < x) : nar .char x = x := by
  have e : x = x &&& 255 := by
    apply Int32.toInt_inj.mp
    have q := c_mask x 255 8 (by decide) (by decide)
    simp only [Int32.lt_iff_toInt_lt, show (255 : Int32).toInt = 255 from rfl, show (0 : Int32).toInt = 0 from rfl] at h
    rw [q]; omega
  rw [e]; exact nar_255 x
/-- the JDK's statics that the sheet's sets name -/
def SetsOk (Z : State) : Prop := ∃ (G1 : Int32) (G3 : Value), Sta Z Z.heap "java/lang/String" "COMPACT_STRINGS" "Z" (.int G1) ∧ ¬ (G1 = (0 : Int32)) ∧ Sta Z Z.heap "jdk/internal/util/Preconditions" "SIOOBE_FORMATTER" "Ljava/util/function/BiFunction;" G3 ∧ G3.isRef = true
theorem payNew (hG : SetsOk Z) (hZ : Z.Warmed39 s.vm) (hws : ∀ d ∈ StrChars.Road.words, d.before a0 Z = true) (wi : (Jvm.Cond.instantiable "java/lang/String" 4).before a0 Z = true)
    {x b : Nat} {kC : ClassId} {d v0 c0 : Value} {N : Int32} (cs : List Int32) (n : Nat) (hx0 : n0 ≤ x) (E : Exa Z h x "java/lang/String") (V : Fld Z h x "java/lang/String" "value" "[B" v0) (C : Fld Z h x "java/lang/String" "coder" "B" c0) (K : Arv Z h b kC .char N (cs.map Value.int) d) (X0 : Old Z n0 h)
    (hn : cs.length = n) (hN : N = Int32.ofNat n) (l0 : 0 < n) (l2 : n ≤ 4000) (hp : ∀ c ∈ cs, ¬ c < 0 ∧ ¬ (255 : Int32) < c) (hfr : 4 ≤ R.frames) (hlo : W + 65 ≤ R.locals) :
    Pay l R p e below s args (⟨"java/lang/String", "<init>", "([C)V"⟩ : MethodName) W [.ref x, .ref b] h 1 n n0 [x] (fun v h' => v = none ∧ Str Z h' x cs h'.size) := by
  obtain ⟨G1, G3, S1, P1, -, -⟩ := hG
  refine Back.mono (StrChars.Road.backV (n0 := n0) (bs := cs.map (fun c => c.toInt8.toInt32)) hZ hws wi hx0 (by have := X0.1; have := X0.2.1; omega) E V C K (S1.ext X0.2) P1 hn hN l0 l2 hp rfl hfr hlo) (fun P a hp => hp) (fun P a v B hp' hq => ?_)
  obtain ⟨L, ⟨q1, q2, q3, q4, q5, t, kb, q6, q7, q8, q9, q10⟩, r1, r2, r3⟩ := hq
  exact ⟨L, ⟨⟨q1, Str.of q4 q9 q5 q10 (by rw [hN, hn]) rfl hp (by omega) q4.lt q10.lt⟩, q3, q2⟩, r1, r2, r3⟩
end OwnStr
end Jvm.Pilot.@@N@@
namespace Jvm.Pilot.@@N@@
open Jvm Jvm.ClassFile Sem Op Lib Jvm.Free Jvm.Stand Jvm.LawKit Jvm.RoadKit Bundle Jvm.Pilot.@@N@@.Jvm.D
section OwnPay
variable {p : Program} {l : Launch} {e : Env} {R : Room} {s : State} {args : Array Value} {below : List Frame} {Z : State} {a0 : Array Value} {n0 : Nat} {h h' : Heap} {W : Nat} {x : Nat} {cs : List Int32} {b : Nat}
theorem payLen (hG : SetsOk Z) (hZ : Z.Warmed39 s.vm) (hws : ∀ d ∈ StrChars.Road.wordsLen, d.before a0 Z = true) (wi : (Jvm.Cond.instantiable "java/lang/String" 4).before a0 Z = true) (F : Str Z h x cs b) (X0 : Old Z n0 h) (hfr : 2 ≤ R.frames) (hlo : W + 25 ≤ R.locals) :
    Pay l R p e below s args (⟨"java/lang/String", "length", "()I"⟩ : MethodName) W [.ref x] h 0 0 n0 [] (fun v h' => v = some (.int (Int32.ofNat cs.length)) ∧ h = h') := by
  obtain ⟨G1, G3, S1, P1, -, -⟩ := hG
  obtain ⟨t, kb, E, V, C, K, r2, r3, r4, r5⟩ := F
  have r1 := StrChars.Road.codOf (cs := cs) rfl (fun c hc => (r2 c hc).2)
  have r2' : ∀ c ∈ cs, ¬ c < 0 ∧ ¬ (65535 : Int32) < c := fun c hc => ⟨(r2 c hc).1, up255 (r2 c hc).2⟩
  refine Back.mono (StrChars.Road.lenW hZ hws wi E V C K r1 r2' (S1.ext X0.2) P1 r3 hfr hlo) (fun P a hp => hp) (fun P a v B hp hq => ?_)
  obtain ⟨L, ⟨q1, rfl, q3⟩, s1, s2, s3⟩ := hq
  exact ⟨[], ⟨⟨q1, q3.symm⟩, by rw [q3]; exact Keep.refl _ _, Fr.nil _⟩, s1, s2, s3⟩
theorem payEq (hG : SetsOk Z) (hZ : Z.Warmed39 s.vm) (hws : ∀ d ∈ StrChars.Road.wordsEq, d.before a0 Z = true) (wi : (Jvm.Cond.instantiable "java/lang/String" 4).before a0 Z = true) (F : Str Z h x cs b) {y : Nat} {ds : List Int32} {b' : Nat} (F' : Str Z h y ds b') (X0 : Old Z n0 h) (hfr : 2 ≤ R.frames) (hlo : W + 28 ≤ R.locals) :
    Pay l R p e below s args (⟨"java/lang/String", "equals", "(Ljava/lang/Object;)Z"⟩ : MethodName) W [.ref x, .ref y] h 0 0 n0 [] (fun v h' => v = some (.int (if cs = ds then 1 else 0)) ∧ h = h') := by
  obtain ⟨G1, G3, S1, P1, -, -⟩ := hG
  obtain ⟨t, kb, E, V, C, K, r2, r3, r4, r5⟩ := F
  have r1 := StrChars.Road.codOf (cs := cs) rfl (fun c hc => (r2 c hc).2)
  have r2' : ∀ c ∈ cs, ¬ c < 0 ∧ ¬ (65535 : Int32) < c := fun c hc => ⟨(r2 c hc).1, up255 (r2 c hc).2⟩
  obtain ⟨t', kb', E', V', C', K', u2, u3, u4, u5⟩ := F'
  have u1 := StrChars.Road.codOf (cs := ds) rfl (fun c hc => (u2 c hc).2)
  have u2' : ∀ c ∈ ds, ¬ c < 0 ∧ ¬ (65535 : Int32) < c := fun c hc => ⟨(u2 c hc).1, up255 (u2 c hc).2⟩
  refine Back.mono (StrChars.Road.eqW hZ hws wi E V C K r1 r2' r3 E' V' C' K' u1 u2' u3 (S1.ext X0.2) P1 hfr hlo) (fun P a hp => hp) (fun P a v B hp hq => ?_)
  obtain ⟨L, ⟨q1, rfl, q3⟩, s1, s2, s3⟩ := hq
  refine ⟨[], ⟨⟨?_, q3.symm⟩, by rw [q3]; exact Keep.refl _ _, Fr.nil _⟩, s1, s2, s3⟩
  rcases q1 with ⟨q, r⟩ | ⟨q, r⟩
  · rw [q, if_pos r]
  · rw [q, if_neg r]
end OwnPay
end Jvm.Pilot.@@N@@
namespace Jvm.Pilot.@@N@@
open Jvm Jvm.ClassFile Sem Op Lib Jvm.Free Jvm.Stand Jvm.LawKit Jvm.RoadKit Bundle Jvm.Pilot.@@N@@.Jvm.D
def own_min (p0 : Int32) (p1 : Int32) : Int32 := (if p1 < p0 then p1 else p0)
theorem dmn_0 : decode jdk_29_method_69_code 0 = .ok (.iload_n 0, 1) := by decide +kernel
theorem dmn_1 : decode jdk_29_method_69_code 1 = .ok (.iload_n 1, 1) := by decide +kernel
theorem dmn_2 : decode jdk_29_method_69_code 2 = .ok (.if_icmp .gt 7, 3) := by decide +kernel
theorem dmn_5 : decode jdk_29_method_69_code 5 = .ok (.iload_n 0, 1) := by decide +kernel
theorem dmn_6 : decode jdk_29_method_69_code 6 = .ok (.goto 4, 3) := by decide +kernel
theorem dmn_9 : decode jdk_29_method_69_code 9 = .ok (.iload_n 1, 1) := by decide +kernel
theorem dmn_10 : decode jdk_29_method_69_code 10 = .ok (.ireturn, 1) := by decide +kernel
theorem efmn (m : MethodId) (x0 : Int32) (x1 : Int32) : entryFrame m #[(.int x0), (.int x1)] 2 = mkF m 0 #[.val (.int x0), .val (.int x1)] [] := by first | (simp [entryFrame, mkF, argsToLocals, Value.category, maxLocals]; done) | rfl
theorem pn_0 : plainFor (⟨"java/lang/Math", "min", "(II)I"⟩ : MethodName) = true := by first | decide +kernel | (apply plainFor_of_name; simp [plainName, overriddenIn]; done)
set_option maxRecDepth 65536 in
set_option maxHeartbeats 40000000 in
theorem rmmn (l : Launch) (Z : State) (a0 : Array Value) (hw : ∀ d ∈ tables_1, d.before a0 Z = true) (p0 : Int32) (p1 : Int32) (h0 : Heap) (n0 : Nat) (Z0 : n0 ≤ h0.size)  :
    NMet l Z (⟨"java/lang/Math", "min", "(II)I"⟩ : MethodName) jdk_29_method_69_code 2 (some .int) [] ({ frames := 0, cells := 0, slots := 0, locals := 0 } : Room) [(.int p0), (.int p1)] h0 n0 [] (fun v h => v = some (.int (own_min p0 p1)) ∧ h0 = h) := by
  refine MetFree.of_bodySF pn_0 hisR ?_
  intro p e s m args below meth c s₁ Bd hml0 hP hK
  obtain ⟨rfl, hZ, hh⟩ := hP
  have hx := Bd.exec
  have hby := Bd.bytes
  have hml : c.maxLocals = 2 := hml0
  have hnm := (name_of_methodNamed Bd.named Bd.method).1
  have w0 := Wk.start (a0 := a0) (EL := []) (n0 := n0) (nw := true) Bd hZ hh EW.nil chv0 (efmn m p0 p1) ({ frames := 0, cells := 0, slots := 0, locals := 0 } : Room) rfl
  have K0 : Keep h0 h0 [] := Keep.refl _ _
  have w1 := w0.pure (mkF m 2 #[.val (.int p0), .val (.int p1)] [(.int p1), (.int p0)]) (fun X eT hZ hown k => by
      show Steps _ _ _ (State.setTop _ (mkF m 0 #[.val (.int p0), .val (.int p1)] [])) _
      refine S.iloadN X.here hx (hb hby dmn_0) rfl ?_
      refine S.iloadN X.here hx (hb hby dmn_1) rfl ?_
      exact k)
  by_cases hc2 : p1 < p0
  · have w3 := w1.pure (mkF m 10 #[.val (.int p0), .val (.int p1)] [(.int p1)]) (fun X eT hZ hown k => by
        show Steps _ _ _ (State.setTop _ (mkF m 2 #[.val (.int p0), .val (.int p1)] [(.int p1), (.int p0)])) _
        refine S.icmpYes X.here hx 9 (hb hby dmn_2) (tlt hc2).2.2.1 (by decide) (by decide) ?_
        refine S.iloadN X.here hx (hb hby dmn_9) rfl ?_
        exact k)
    exact w3.endN (v := some (.int p1)) (Q := (fun v h => v = some (.int (own_min p0 p1)) ∧ h0 = h)) (wr := []) (h0 := h0) (fun h => by rw [Bd.returns] at h; cases h) Bd.notSynchronized (fun X hr => retI X hx Bd.returns (hb hby dmn_10) hr) (by decide) (by decide) ⟨by simp only [own_min, if_pos hc2], rfl⟩ K0
  · have w4 := w1.pure (mkF m 10 #[.val (.int p0), .val (.int p1)] [(.int p0)]) (fun X eT hZ hown k => by
        show Steps _ _ _ (State.setTop _ (mkF m 2 #[.val (.int p0), .val (.int p1)] [(.int p1), (.int p0)])) _
        refine S.icmpNo X.here hx (hb hby dmn_2) (flt hc2).2.2.1 ?_
        refine S.iloadN X.here hx (hb hby dmn_5) rfl ?_
        refine S.goto X.here hx 10 (hb hby dmn_6) (by decide) (by decide) ?_
        exact k)
    exact w4.endN (v := some (.int p0)) (Q := (fun v h => v = some (.int (own_min p0 p1)) ∧ h0 = h)) (wr := []) (h0 := h0) (fun h => by rw [Bd.returns] at h; cases h) Bd.notSynchronized (fun X hr => retI X hx Bd.returns (hb hby dmn_10) hr) (by decide) (by decide) ⟨by simp only [own_min, if_neg hc2], rfl⟩ K0
theorem own_min_same (x : Int32) : own_min x x = x := by unfold own_min; split <;> rfl
theorem own_min_cp {L b n : Nat} (h : b + n ≤ L) (hL : L ≤ 4000) : own_min (Int32.ofNat L - Int32.ofNat b) (Int32.ofNat n) = Int32.ofNat n := by
  rw [show L = b + (L - b) by omega, i_sub]; unfold own_min; split
  · rfl
  · next q => rw [i_lt (by omega) (by omega)] at q; rw [i_eq (by omega) (by omega)]; omega
theorem dil_0 : decode jdk_42_method_154_code 0 = .ok (.getstatic 38, 3) := by decide +kernel
theorem dil_3 : decode jdk_42_method_154_code 3 = .ok (.ifCond .eq 14, 3) := by decide +kernel
theorem dil_6 : decode jdk_42_method_154_code 6 = .ok (.aload_n 0, 1) := by decide +kernel
theorem dil_7 : decode jdk_42_method_154_code 7 = .ok (.getfield 15, 3) := by decide +kernel
theorem dil_10 : decode jdk_42_method_154_code 10 = .ok (.ifCond .ne 7, 3) := by decide +kernel
theorem dil_13 : decode jdk_42_method_154_code 13 = .ok (.iconst 1, 1) := by decide +kernel
theorem dil_14 : decode jdk_42_method_154_code 14 = .ok (.goto 4, 3) := by decide +kernel
theorem dil_18 : decode jdk_42_method_154_code 18 = .ok (.ireturn, 1) := by decide +kernel
theorem efil (m : MethodId) (x0 : Nat) : entryFrame m #[(.ref x0)] 1 = mkF m 0 #[.val (.ref x0)] [] := by first | (simp [entryFrame, mkF, argsToLocals, Value.category, maxLocals]; done) | rfl
theorem pn_1 : plainFor (⟨"java/lang/String", "isLatin1", "()Z"⟩ : MethodName) = true := by first | decide +kernel | (apply plainFor_of_name; simp [plainName, overriddenIn]; done)
set_option maxRecDepth 65536 in
set_option maxHeartbeats 40000000 in
theorem rmil (l : Launch) (Z : State) (a0 : Array Value) (hw : ∀ d ∈ tables_1, d.before a0 Z = true) (x : Nat) (h0 : Heap) (n0 : Nat) (Z0 : n0 ≤ h0.size) (hG : SetsOk Z) (X0 : Old Z n0 h0) (F2 : Fld Z h0 x "java/lang/String" "coder" "B" (.int (0 : Int32))) :
    NMet l Z (⟨"java/lang/String", "isLatin1", "()Z"⟩ : MethodName) jdk_42_method_154_code 1 (some .boolean) [] ({ frames := 0, cells := 0, slots := 0, locals := 0 } : Room) [(.ref x)] h0 n0 [] (fun v h => v = some (.int (1 : Int32)) ∧ h0 = h) := by
  refine MetFree.of_bodySF pn_1 hisR ?_
  intro p e s m args below meth c s₁ Bd hml0 hP hK
  obtain ⟨rfl, hZ, hh⟩ := hP
  obtain ⟨G1, G3, S1, P1, S3, P3⟩ := hG
  have hx := Bd.exec
  have hby := Bd.bytes
  have hml : c.maxLocals = 1 := hml0
  have hnm := (name_of_methodNamed Bd.named Bd.method).1
  have w0 := Wk.start (a0 := a0) (EL := []) (n0 := n0) (nw := true) Bd hZ hh EW.nil chv0 (efil m x) ({ frames := 0, cells := 0, slots := 0, locals := 0 } : Room) rfl
  have K0 : Keep h0 h0 [] := Keep.refl _ _
  have lt_F2 : h0.size > x := Fld.lt F2
  have w1 := w0.same (mkF m 3 #[.val (.ref x)] [(.int G1)]) (fun X eT hZ hown => getS (host := "") X hx hZ hown (hw _ (List.mem_of_getElem? (i := 38) rfl)) Via.refl eT (S1.ext X0.2) (g := (mkF m 0 #[.val (.ref x)] [])) rfl (hb hby dil_0))
  have w2 := w1.pure (mkF m 7 #[.val (.ref x)] [(.ref x)]) (fun X eT hZ hown k => by
      show Steps _ _ _ (State.setTop _ (mkF m 3 #[.val (.ref x)] [(.int G1)])) _
      refine S.ifNo X.here hx (hb hby dil_3) ((if0 _ _).trans (feq P1).1) ?_
      refine S.aloadN X.here hx (hb hby dil_6) rfl rfl ?_
      exact k)
  have w3 := w2.same (mkF m 10 #[.val (.ref x)] [(.int (0 : Int32))]) (fun X eT hZ hown => getF X hx hZ hown (host := "") (Or.inl (hw _ (List.mem_of_getElem? (i := 49) rfl))) Via.refl eT F2 (g := (mkF m 7 #[.val (.ref x)] [(.ref x)])) rfl rfl (hb hby dil_7))
  have w4 := w3.pure (mkF m 18 #[.val (.ref x)] [(.int (1 : Int32))]) (fun X eT hZ hown k => by
      show Steps _ _ _ (State.setTop _ (mkF m 10 #[.val (.ref x)] [(.int (0 : Int32))])) _
      refine S.ifNo X.here hx (hb hby dil_10) (by decide) ?_
      refine S.iconst X.here hx (1 : Int32) (hb hby dil_13) rfl ?_
      refine S.goto X.here hx 18 (hb hby dil_14) (by decide) (by decide) ?_
      exact k)
  exact w4.endN (v := some (.int (1 : Int32))) (Q := (fun v h => v = some (.int (1 : Int32)) ∧ h0 = h)) (wr := []) (h0 := h0) (fun h => by rw [Bd.returns] at h; cases h) Bd.notSynchronized (fun X hr => retN X hx (t := .boolean) Bd.returns (by simp) (hb hby dil_18) hr) (by decide) (by decide) ⟨rfl, rfl⟩ K0
theorem dbb_0 : decode jdk_42_method_151_code 0 = .ok (.aload_n 0, 1) := by decide +kernel
theorem dbb_1 : decode jdk_42_method_151_code 1 = .ok (.invokespecial 1, 3) := by decide +kernel
theorem dbb_4 : decode jdk_42_method_151_code 4 = .ok (.aload_n 0, 1) := by decide +kernel
theorem dbb_5 : decode jdk_42_method_151_code 5 = .ok (.aload_n 1, 1) := by decide +kernel
theorem dbb_6 : decode jdk_42_method_151_code 6 = .ok (.putfield 9, 3) := by decide +kernel
theorem dbb_9 : decode jdk_42_method_151_code 9 = .ok (.aload_n 0, 1) := by decide +kernel
theorem dbb_10 : decode jdk_42_method_151_code 10 = .ok (.iload_n 2, 1) := by decide +kernel
theorem dbb_11 : decode jdk_42_method_151_code 11 = .ok (.putfield 15, 3) := by decide +kernel
theorem dbb_14 : decode jdk_42_method_151_code 14 = .ok (.return_, 1) := by decide +kernel
theorem efbb (m : MethodId) (x0 : Nat) (x1 : Nat) (x2 : Int32) : entryFrame m #[(.ref x0), (.ref x1), (.int x2)] 3 = mkF m 0 #[.val (.ref x0), .val (.ref x1), .val (.int x2)] [] := by first | (simp [entryFrame, mkF, argsToLocals, Value.category, maxLocals]; done) | rfl
theorem pn_2 : plainFor (⟨"java/lang/String", "<init>", "([BB)V"⟩ : MethodName) = true := by first | decide +kernel | (apply plainFor_of_name; simp [plainName, overriddenIn]; done)
set_option maxRecDepth 65536 in
set_option maxHeartbeats 40000000 in
theorem rmbb (l : Launch) (Z : State) (a0 : Array Value) (hw : ∀ d ∈ tables_1, d.before a0 Z = true) (a t : Nat) (h0 : Heap) (n0 : Nat) (Z0 : n0 ≤ h0.size) (ga : n0 ≤ a) (E0 : Exa Z h0 a "java/lang/String") (F01 : Fld Z h0 a "java/lang/String" "value" "[B" .null) (F02 : Fld Z h0 a "java/lang/String" "coder" "B" (.int (0 : Int32))) :
    NMet l Z (⟨"java/lang/String", "<init>", "([BB)V"⟩ : MethodName) jdk_42_method_151_code 3 none [] ({ frames := 1, cells := 0, slots := 0, locals := 12 } : Room) [(.ref a), (.ref t), (.int (0 : Int32))] h0 n0 [a] (fun v h => v = none ∧ Exa Z h a "java/lang/String" ∧ Fld Z h a "java/lang/String" "value" "[B" (.ref t) ∧ Fld Z h a "java/lang/String" "coder" "B" (.int (0 : Int32))) := by
  refine MetFree.of_bodySF pn_2 hisR ?_
  intro p e s m args below meth c s₁ Bd hml0 hP hK
  obtain ⟨rfl, hZ, hh⟩ := hP
  have hx := Bd.exec
  have hby := Bd.bytes
  have hml : c.maxLocals = 3 := hml0
  have hnm := (name_of_methodNamed Bd.named Bd.method).1
  have w0 := Wk.start (a0 := a0) (EL := []) (n0 := n0) (nw := true) Bd hZ hh EW.nil chv0 (efbb m a t (0 : Int32)) ({ frames := 1, cells := 0, slots := 0, locals := 12 } : Room) rfl
  have K0 : Keep h0 h0 [a] := Keep.refl _ _
  have lt_E0 := exlt E0
  have lt_F01 : h0.size > a := Fld.lt F01
  have lt_F02 : h0.size > a := Fld.lt F02
  have w1 := w0.pure (mkF m 1 #[.val (.ref a), .val (.ref t), .val (.int (0 : Int32))] [(.ref a)]) (fun X eT hZ hown k => by
      show Steps _ _ _ (State.setTop _ (mkF m 0 #[.val (.ref a), .val (.ref t), .val (.int (0 : Int32))] [])) _
      refine S.aloadN X.here hx (hb hby dbb_0) rfl rfl ?_
      exact k)
  have w2 := w1.same (mkF m 4 #[.val (.ref a), .val (.ref t), .val (.int (0 : Int32))] []) (fun X eT hZ hown => initO X hx hZ hown (hw _ (List.mem_of_getElem? (i := 35) rfl)) (hw _ (List.mem_of_getElem? (i := 36) rfl)) (hw _ (List.mem_of_getElem? (i := 37) rfl)) eT (g := (mkF m 1 #[.val (.ref a), .val (.ref t), .val (.int (0 : Int32))] [(.ref a)])) rfl (by rw [hml]; rfl) rfl (hb hby dbb_1) (by decide) (W := 0) (by show 2 * 0 + _ ≤ _; exact Nat.le_of_eq rfl) (by decide))
  have w3 := w2.pure (mkF m 6 #[.val (.ref a), .val (.ref t), .val (.int (0 : Int32))] [(.ref t), (.ref a)]) (fun X eT hZ hown k => by
      show Steps _ _ _ (State.setTop _ (mkF m 4 #[.val (.ref a), .val (.ref t), .val (.int (0 : Int32))] [])) _
      refine S.aloadN X.here hx (hb hby dbb_4) rfl rfl ?_
      refine S.aloadN X.here hx (hb hby dbb_5) rfl rfl ?_
      exact k)
  obtain ⟨h4, W4, z4, F4, w4⟩ := w3.putF hx (host := "") (Or.inl (hw _ (List.mem_of_getElem? (i := 50) rfl))) Via.refl F01 E0 (Or.inr ⟨(hw _ (List.mem_of_getElem? (i := 4) rfl)), rfl, hnm⟩) (hw _ (List.mem_of_getElem? (i := 2) rfl)) (ty := (.array .byte)) (by decide) rfl rfl rfl rfl (hb hby dbb_6) (by omega) safe0 (mkF m 9 #[.val (.ref a), .val (.ref t), .val (.int (0 : Int32))] []) rfl
  have K5 : Keep h0 h4 [a] := K0.wr W4 (Or.inl (List.mem_of_getElem? (i := 0) rfl))
  have w6 := w4.pure (mkF m 11 #[.val (.ref a), .val (.ref t), .val (.int (0 : Int32))] [(.int (0 : Int32)), (.ref a)]) (fun X eT hZ hown k => by
      show Steps _ _ _ (State.setTop _ (mkF m 9 #[.val (.ref a), .val (.ref t), .val (.int (0 : Int32))] [])) _
      refine S.aloadN X.here hx (hb hby dbb_9) rfl rfl ?_
      refine S.iloadN X.here hx (hb hby dbb_10) rfl ?_
      exact k)
  have F7 := F02.other W4 (Or.inr (slot_ne (Or.inr (hw _ (List.mem_of_getElem? (i := 5) rfl))) (Or.inr (hw _ (List.mem_of_getElem? (i := 4) rfl))) (by decide) (t := .byte) (t' := (.array .byte)) (by decide) (by decide)))
  have F8 := E0.wr W4
  obtain ⟨h9, W9, z9, F9, w9⟩ := w6.putFN hx (hw _ (List.mem_of_getElem? (i := 49) rfl)) Via.refl (.int (0 : Int32)) F7 F8 (Or.inr ⟨(hw _ (List.mem_of_getElem? (i := 5) rfl)), rfl, hnm⟩) (hw _ (List.mem_of_getElem? (i := 2) rfl)) (ty := .byte) (by decide) rfl rfl rfl rfl (hb hby dbb_11) (by omega) safe0 (mkF m 14 #[.val (.ref a), .val (.ref t), .val (.int (0 : Int32))] []) rfl
  have K10 : Keep h0 h9 [a] := K5.wr W9 (Or.inl (List.mem_of_getElem? (i := 0) rfl))
  have F11 := F8.wr W9
  have F12 := F4.other W9 (Or.inr (slot_ne (Or.inr (hw _ (List.mem_of_getElem? (i := 4) rfl))) (Or.inr (hw _ (List.mem_of_getElem? (i := 5) rfl))) (by decide) (t := (.array .byte)) (t' := .byte) (by decide) (by decide)))
  exact w9.endN (v := none) (Q := (fun v h => v = none ∧ Exa Z h a "java/lang/String" ∧ Fld Z h a "java/lang/String" "value" "[B" (.ref t) ∧ Fld Z h a "java/lang/String" "coder" "B" (.int (0 : Int32)))) (wr := [a]) (h0 := h0) (fun _ => rfl) Bd.notSynchronized (fun X hr => X.returnOut hx Bd.returns (hb hby dbb_14) hr) (by decide) (by decide) ⟨rfl, F11, F12, F9⟩ K10
theorem dlc_0 : decode jdk_43_method_4_code 0 = .ok (.iload_n 0, 1) := by decide +kernel
theorem dlc_1 : decode jdk_43_method_4_code 1 = .ok (.ifCond .lt 14, 3) := by decide +kernel
theorem dlc_4 : decode jdk_43_method_4_code 4 = .ok (.iload_n 0, 1) := by decide +kernel
theorem dlc_5 : decode jdk_43_method_4_code 5 = .ok (.sipush 255, 3) := by decide +kernel
theorem dlc_8 : decode jdk_43_method_4_code 8 = .ok (.if_icmp .gt 7, 3) := by decide +kernel
theorem dlc_11 : decode jdk_43_method_4_code 11 = .ok (.iconst 1, 1) := by decide +kernel
theorem dlc_12 : decode jdk_43_method_4_code 12 = .ok (.goto 4, 3) := by decide +kernel
theorem dlc_16 : decode jdk_43_method_4_code 16 = .ok (.ireturn, 1) := by decide +kernel
theorem eflc (m : MethodId) (x0 : Int32) : entryFrame m #[(.int x0)] 1 = mkF m 0 #[.val (.int x0)] [] := by first | (simp [entryFrame, mkF, argsToLocals, Value.category, maxLocals]; done) | rfl
theorem pn_3 : plainFor (⟨"java/lang/StringLatin1", "canEncode", "(I)Z"⟩ : MethodName) = true := by first | decide +kernel | (apply plainFor_of_name; simp [plainName, overriddenIn]; done)
set_option maxRecDepth 65536 in
set_option maxHeartbeats 40000000 in
theorem rmlc (l : Launch) (Z : State) (a0 : Array Value) (hw : ∀ d ∈ tables_1, d.before a0 Z = true)  (h0 : Heap) (n0 : Nat) (Z0 : n0 ≤ h0.size)  :
    NMet l Z (⟨"java/lang/StringLatin1", "canEncode", "(I)Z"⟩ : MethodName) jdk_43_method_4_code 1 (some .boolean) [] ({ frames := 0, cells := 0, slots := 0, locals := 0 } : Room) [(.int (47 : Int32))] h0 n0 [] (fun v h => v = some (.int (1 : Int32)) ∧ h0 = h) := by
  refine MetFree.of_bodySF pn_3 hisR ?_
  intro p e s m args below meth c s₁ Bd hml0 hP hK
  obtain ⟨rfl, hZ, hh⟩ := hP
  have hx := Bd.exec
  have hby := Bd.bytes
  have hml : c.maxLocals = 1 := hml0
  have hnm := (name_of_methodNamed Bd.named Bd.method).1
  have w0 := Wk.start (a0 := a0) (EL := []) (n0 := n0) (nw := true) Bd hZ hh EW.nil chv0 (eflc m (47 : Int32)) ({ frames := 0, cells := 0, slots := 0, locals := 0 } : Room) rfl
  have K0 : Keep h0 h0 [] := Keep.refl _ _
  have w1 := w0.pure (mkF m 16 #[.val (.int (47 : Int32))] [(.int (1 : Int32))]) (fun X eT hZ hown k => by
      show Steps _ _ _ (State.setTop _ (mkF m 0 #[.val (.int (47 : Int32))] [])) _
      refine S.iloadN X.here hx (hb hby dlc_0) rfl ?_
      refine S.ifNo X.here hx (hb hby dlc_1) (by decide) ?_
      refine S.iloadN X.here hx (hb hby dlc_4) rfl ?_
      refine S.sipush X.here hx (255 : Int32) (hb hby dlc_5) rfl ?_
      refine S.icmpNo X.here hx (hb hby dlc_8) (by decide) ?_
      refine S.iconst X.here hx (1 : Int32) (hb hby dlc_11) rfl ?_
      refine S.goto X.here hx 16 (hb hby dlc_12) (by decide) (by decide) ?_
      exact k)
  exact w1.endN (v := some (.int (1 : Int32))) (Q := (fun v h => v = some (.int (1 : Int32)) ∧ h0 = h)) (wr := []) (h0 := h0) (fun h => by rw [Bd.returns] at h; cases h) Bd.notSynchronized (fun X hr => retN X hx (t := .boolean) Bd.returns (by simp) (hb hby dlc_16) hr) (by decide) (by decide) ⟨rfl, rfl⟩ K0
theorem dlz_18 : decode jdk_43_method_27_code 18 = .ok (.iload_n 3, 1) := by decide +kernel
theorem dlz_19 : decode jdk_43_method_27_code 19 = .ok (.ifCond .lt 19, 3) := by decide +kernel
theorem dlz_38 : decode jdk_43_method_27_code 38 = .ok (.iconst (-1), 1) := by decide +kernel
theorem dlz_39 : decode jdk_43_method_27_code 39 = .ok (.ireturn, 1) := by decide +kernel
set_option maxRecDepth 65536 in
set_option maxHeartbeats 40000000 in
theorem ptlz (l : Launch) (Z : State) (a0 : Array Value) (hw : ∀ d ∈ tables_1, d.before a0 Z = true) {p : Program} {e : Env} {s s₁ st : State} {m : MethodId} {args : Array Value} {below : List Frame} {meth : Method} {c : Code} {Sp : Spec} (Bd : BodyLoose p l (⟨"java/lang/StringLatin1", "lastIndexOf", "([BII)I"⟩ : MethodName) Sp jdk_43_method_27_code 4 (some .int) e s m args below meth c s₁) (hml : c.maxLocals = 4) (t : Nat) (kb : ClassId) (cs : List Int32) (p2 : Int32) (h0 : Heap) (n0 : Nat) (Z0 : n0 ≤ h0.size) {h1 : Heap} {vm1 : Vm}
    (w0 : Wk p l e ({ frames := 1, cells := 0, slots := 0, locals := 19 } : Room) s m args below meth c Z a0 [] n0 "java/lang/StringLatin1" true st vm1 h1 (mkF m 18 #[.val (.ref t), .val (.int (47 : Int32)), .val (.int p2), .val (.int (-1 : Int32))] []) 0 0) (K0 : Keep h0 h1 []) (Z1 : h0.size ≤ h1.size) (V1 : Arv Z h1 t kb .byte (Int32.ofNat cs.length) ((cs.map (fun c => c.toInt8.toInt32)).map Value.int) (.int (0 : Int32))) (e01 : h0 = h1) :
    EndsN p e below st s n0 h0 [] (fun v h => v = some (.int (own_lix cs (47 : Int32) 0)) ∧ h0 = h) ({ frames := 1, cells := 0, slots := 0, locals := 19 } : Room).cells ({ frames := 1, cells := 0, slots := 0, locals := 19 } : Room).slots := by
  have hx := Bd.exec
  have hby := Bd.bytes
  have hnm := (name_of_methodNamed Bd.named Bd.method).1
  have lt_V1 := arlt V1
  have w1 := w0.pure (mkF m 39 #[.val (.ref t), .val (.int (47 : Int32)), .val (.int p2), .val (.int (-1 : Int32))] [(.int (-1 : Int32))]) (fun X eT hZ hown k => by
      show Steps _ _ _ (State.setTop _ (mkF m 18 #[.val (.ref t), .val (.int (47 : Int32)), .val (.int p2), .val (.int (-1 : Int32))] [])) _
      refine S.iloadN X.here hx (hb hby dlz_18) rfl ?_
      refine S.ifYes X.here hx 38 (hb hby dlz_19) (by decide) (by decide) (by decide) ?_
      refine S.iconst X.here hx (-1 : Int32) (hb hby dlz_38) rfl ?_
      exact k)
  exact w1.endN (v := some (.int (-1 : Int32))) (Q := (fun v h => v = some (.int (own_lix cs (47 : Int32) 0)) ∧ h0 = h)) (wr := []) (h0 := h0) (fun h => by rw [Bd.returns] at h; cases h) Bd.notSynchronized (fun X hr => retI X hx Bd.returns (hb hby dlz_39) hr) (by decide) (by decide) ⟨rfl, e01⟩ K0
theorem own_byte {cs : List Int32} {n : Nat} (hn : n < cs.length) (ln : cs.length ≤ 4000) : ((cs.map (fun c => c.toInt8.toInt32)).map Value.int).getD (Int32.ofNat n).toNatClampNeg (.int (0 : Int32)) = .int ((cs.getD n 0).toInt8.toInt32) := by
  rw [i_clamp (by omega)]; simp [List.getD_eq_getElem?_getD, hn]
theorem own_lix_hit {cs : List Int32} {n : Nat} (hn : n < cs.length) (rg : ∀ c ∈ cs, ¬ c < 0 ∧ ¬ (255 : Int32) < c) (q : ((cs.getD n 0).toInt8.toInt32) = ((47 : Int32).toInt8.toInt32)) : own_lix cs (47 : Int32) (n + 1) = Int32.ofNat n :=
  if_pos (own_b8 (by simp only [List.getD_eq_getElem?_getD, List.getElem?_eq_getElem hn, Option.getD_some]; exact rg _ (List.getElem_mem hn)) (by decide) q)
theorem own_lix_miss {cs : List Int32} {n : Nat} (q : ¬ ((cs.getD n 0).toInt8.toInt32) = ((47 : Int32).toInt8.toInt32)) : own_lix cs (47 : Int32) (n + 1) = own_lix cs (47 : Int32) n := if_neg (fun r => q (by rw [r]))
theorem dlt_18 : decode jdk_43_method_27_code 18 = .ok (.iload_n 3, 1) := by decide +kernel
theorem dlt_19 : decode jdk_43_method_27_code 19 = .ok (.ifCond .lt 19, 3) := by decide +kernel
theorem dlt_22 : decode jdk_43_method_27_code 22 = .ok (.aload_n 0, 1) := by decide +kernel
theorem dlt_23 : decode jdk_43_method_27_code 23 = .ok (.iload_n 3, 1) := by decide +kernel
theorem dlt_24 : decode jdk_43_method_27_code 24 = .ok (.baload, 1) := by decide +kernel
theorem dlt_25 : decode jdk_43_method_27_code 25 = .ok (.iload_n 1, 1) := by decide +kernel
theorem dlt_26 : decode jdk_43_method_27_code 26 = .ok (.i2b, 1) := by decide +kernel
theorem dlt_27 : decode jdk_43_method_27_code 27 = .ok (.if_icmp .ne 5, 3) := by decide +kernel
theorem dlt_30 : decode jdk_43_method_27_code 30 = .ok (.iload_n 3, 1) := by decide +kernel
theorem dlt_31 : decode jdk_43_method_27_code 31 = .ok (.ireturn, 1) := by decide +kernel
theorem dlt_32 : decode jdk_43_method_27_code 32 = .ok (.iinc 3 (-1), 3) := by decide +kernel
theorem dlt_35 : decode jdk_43_method_27_code 35 = .ok (.goto (-17), 3) := by decide +kernel
set_option maxRecDepth 65536 in
set_option maxHeartbeats 40000000 in
theorem ptlt (l : Launch) (Z : State) (a0 : Array Value) (hw : ∀ d ∈ tables_1, d.before a0 Z = true) {p : Program} {e : Env} {s s₁ st : State} {m : MethodId} {args : Array Value} {below : List Frame} {meth : Method} {c : Code} {Sp : Spec} (Bd : BodyLoose p l (⟨"java/lang/StringLatin1", "lastIndexOf", "([BII)I"⟩ : MethodName) Sp jdk_43_method_27_code 4 (some .int) e s m args below meth c s₁) (hml : c.maxLocals = 4) (t : Nat) (kb : ClassId) (cs : List Int32) (p2 : Int32) (n : Nat) (h0 : Heap) (n0 : Nat) (Z0 : n0 ≤ h0.size) {h1 : Heap} {vm1 : Vm}
    (w0 : Wk p l e ({ frames := 1, cells := 0, slots := 0, locals := 19 } : Room) s m args below meth c Z a0 [] n0 "java/lang/StringLatin1" true st vm1 h1 (mkF m 18 #[.val (.ref t), .val (.int (47 : Int32)), .val (.int p2), .val (.int (Int32.ofNat n))] []) 0 0) (K0 : Keep h0 h1 []) (Z1 : h0.size ≤ h1.size) (V1 : Arv Z h1 t kb .byte (Int32.ofNat cs.length) ((cs.map (fun c => c.toInt8.toInt32)).map Value.int) (.int (0 : Int32))) (e01 : h0 = h1) (hn : n < cs.length) (ln : cs.length ≤ 4000) (rg : ∀ c ∈ cs, ¬ c < 0 ∧ ¬ (255 : Int32) < c) (ih : Wk p l e ({ frames := 1, cells := 0, slots := 0, locals := 19 } : Room) s m args below meth c Z a0 [] n0 "java/lang/StringLatin1" true st vm1 h1 (mkF m 18 #[.val (.ref t), .val (.int (47 : Int32)), .val (.int p2), .val (.int (Int32.ofNat n - (1 : Int32)))] []) 0 0 → EndsN p e below st s n0 h0 [] (fun v h => v = some (.int (own_lix cs (47 : Int32) n)) ∧ h0 = h) ({ frames := 1, cells := 0, slots := 0, locals := 19 } : Room).cells ({ frames := 1, cells := 0, slots := 0, locals := 19 } : Room).slots) :
    EndsN p e below st s n0 h0 [] (fun v h => v = some (.int (own_lix cs (47 : Int32) (n + 1))) ∧ h0 = h) ({ frames := 1, cells := 0, slots := 0, locals := 19 } : Room).cells ({ frames := 1, cells := 0, slots := 0, locals := 19 } : Room).slots := by
  have hx := Bd.exec
  have hby := Bd.bytes
  have hnm := (name_of_methodNamed Bd.named Bd.method).1
  have lt_V1 := arlt V1
  have w1 := w0.pure (mkF m 27 #[.val (.ref t), .val (.int (47 : Int32)), .val (.int p2), .val (.int (Int32.ofNat n))] [(.int ((47 : Int32).toInt8.toInt32)), (.int ((cs.getD n 0).toInt8.toInt32))]) (fun X eT hZ hown k => by
      show Steps _ _ _ (State.setTop _ (mkF m 18 #[.val (.ref t), .val (.int (47 : Int32)), .val (.int p2), .val (.int (Int32.ofNat n))] [])) _
      refine S.iloadN X.here hx (hb hby dlt_18) rfl ?_
      refine S.ifNo X.here hx (hb hby dlt_19) ((if0 _ _).trans (flt (i_nn (by omega))).1) ?_
      refine S.aloadN X.here hx (hb hby dlt_22) rfl rfl ?_
      refine S.iloadN X.here hx (hb hby dlt_23) rfl ?_
      refine baV X hx eT hZ V1 (v := (.int ((cs.getD n 0).toInt8.toInt32))) ⟨i_nn (by omega), (i_lt (by omega) ln).mpr hn⟩ (own_byte hn ln) rfl rfl (hb hby dlt_24) ?_
      show Steps _ _ _ (State.setTop _ (mkF m 25 #[.val (.ref t), .val (.int (47 : Int32)), .val (.int p2), .val (.int (Int32.ofNat n))] [(.int ((cs.getD n 0).toInt8.toInt32))])) _
      refine S.iloadN X.here hx (hb hby dlt_25) rfl ?_
      refine S.i2b X.here hx (hb hby dlt_26) ?_
      exact k)
  by_cases hc2 : ((cs.getD n 0).toInt8.toInt32) = ((47 : Int32).toInt8.toInt32)
  · have w3 := w1.pure (mkF m 31 #[.val (.ref t), .val (.int (47 : Int32)), .val (.int p2), .val (.int (Int32.ofNat n))] [(.int (Int32.ofNat n))]) (fun X eT hZ hown k => by
        show Steps _ _ _ (State.setTop _ (mkF m 27 #[.val (.ref t), .val (.int (47 : Int32)), .val (.int p2), .val (.int (Int32.ofNat n))] [(.int ((47 : Int32).toInt8.toInt32)), (.int ((cs.getD n 0).toInt8.toInt32))])) _
        refine S.icmpNo X.here hx (hb hby dlt_27) (teq hc2).2 ?_
        refine S.iloadN X.here hx (hb hby dlt_30) rfl ?_
        exact k)
    exact w3.endN (v := some (.int (Int32.ofNat n))) (Q := (fun v h => v = some (.int (own_lix cs (47 : Int32) (n + 1))) ∧ h0 = h)) (wr := []) (h0 := h0) (fun h => by rw [Bd.returns] at h; cases h) Bd.notSynchronized (fun X hr => retI X hx Bd.returns (hb hby dlt_31) hr) (by decide) (by decide) ⟨by rw [own_lix_hit hn rg hc2], e01⟩ K0
  · have w4 := w1.pure (mkF m 18 #[.val (.ref t), .val (.int (47 : Int32)), .val (.int p2), .val (.int ((Int32.ofNat n) + (-1 : Int32)))] []) (fun X eT hZ hown k => by
        show Steps _ _ _ (State.setTop _ (mkF m 27 #[.val (.ref t), .val (.int (47 : Int32)), .val (.int p2), .val (.int (Int32.ofNat n))] [(.int ((47 : Int32).toInt8.toInt32)), (.int ((cs.getD n 0).toInt8.toInt32))])) _
        refine S.icmpYes X.here hx 32 (hb hby dlt_27) (feq hc2).2 (by decide) (by decide) ?_
        refine S.iinc X.here hx ((Int32.ofNat n) + (-1 : Int32)) (hb hby dlt_32) rfl rfl #[.val (.ref t), .val (.int (47 : Int32)), .val (.int p2), .val (.int ((Int32.ofNat n) + (-1 : Int32)))] rfl ?_
        refine S.goto X.here hx 18 (hb hby dlt_35) (by decide) (by decide) ?_
        exact k)
    rw [own_lix_miss hc2]
    exact ih (by rw [← i_dec]; exact w4)
theorem own_lixL (l : Launch) (Z : State) (a0 : Array Value) (hw : ∀ d ∈ tables_1, d.before a0 Z = true) {p : Program} {e : Env} {s s₁ st : State} {m : MethodId} {args : Array Value} {below : List Frame} {meth : Method} {c : Code} {Sp : Spec} (Bd : BodyLoose p l (⟨"java/lang/StringLatin1", "lastIndexOf", "([BII)I"⟩ : MethodName) Sp jdk_43_method_27_code 4 (some .int) e s m args below meth c s₁) (hml : c.maxLocals = 4) (t : Nat) (kb : ClassId) (cs : List Int32) (p2 : Int32) (h0 : Heap) (n0 : Nat) (Z0 : n0 ≤ h0.size) {h1 : Heap} {vm1 : Vm} (K0 : Keep h0 h1 []) (Z1 : h0.size ≤ h1.size) (V1 : Arv Z h1 t kb .byte (Int32.ofNat cs.length) ((cs.map (fun c => c.toInt8.toInt32)).map Value.int) (.int (0 : Int32))) (e01 : h0 = h1) (ln : cs.length ≤ 4000) (rg : ∀ c ∈ cs, ¬ c < 0 ∧ ¬ (255 : Int32) < c) :
    ∀ n : Nat, n ≤ cs.length → Wk p l e ({ frames := 1, cells := 0, slots := 0, locals := 19 } : Room) s m args below meth c Z a0 [] n0 "java/lang/StringLatin1" true st vm1 h1 (mkF m 18 #[.val (.ref t), .val (.int (47 : Int32)), .val (.int p2), .val (.int (Int32.ofNat n - (1 : Int32)))] []) 0 0 → EndsN p e below st s n0 h0 [] (fun v h => v = some (.int (own_lix cs (47 : Int32) n)) ∧ h0 = h) ({ frames := 1, cells := 0, slots := 0, locals := 19 } : Room).cells ({ frames := 1, cells := 0, slots := 0, locals := 19 } : Room).slots := by
  intro n
  induction n with
  | zero => intro _ w; exact ptlz l Z a0 hw Bd hml t kb cs p2 h0 n0 Z0 w K0 Z1 V1 e01
  | succ n ih => intro q w; exact ptlt l Z a0 hw Bd hml t kb cs p2 n h0 n0 Z0 (by rw [← i_pred]; exact w) K0 Z1 V1 e01 (by omega) ln rg (ih (by omega))
theorem pd_0 : parseMethodDescriptor "(I)Z" = some ⟨[.int], some .boolean⟩ := by decide +kernel
theorem pd_1 : parseMethodDescriptor "(II)I" = some ⟨[.int, .int], some .int⟩ := by decide +kernel
theorem dl1_0 : decode jdk_43_method_27_code 0 = .ok (.iload_n 1, 1) := by decide +kernel
theorem dl1_1 : decode jdk_43_method_27_code 1 = .ok (.invokestatic 88, 3) := by decide +kernel
theorem dl1_4 : decode jdk_43_method_27_code 4 = .ok (.ifCond .ne 5, 3) := by decide +kernel
theorem dl1_9 : decode jdk_43_method_27_code 9 = .ok (.iload_n 2, 1) := by decide +kernel
theorem dl1_10 : decode jdk_43_method_27_code 10 = .ok (.aload_n 0, 1) := by decide +kernel
theorem dl1_11 : decode jdk_43_method_27_code 11 = .ok (.arraylength, 1) := by decide +kernel
theorem dl1_12 : decode jdk_43_method_27_code 12 = .ok (.iconst 1, 1) := by decide +kernel
theorem dl1_13 : decode jdk_43_method_27_code 13 = .ok (.isub, 1) := by decide +kernel
theorem dl1_14 : decode jdk_43_method_27_code 14 = .ok (.invokestatic 38, 3) := by decide +kernel
theorem dl1_17 : decode jdk_43_method_27_code 17 = .ok (.istore_n 3, 1) := by decide +kernel
theorem efl1 (m : MethodId) (x0 : Nat) (x1 : Int32) (x2 : Int32) : entryFrame m #[(.ref x0), (.int x1), (.int x2)] 4 = mkF m 0 #[.val (.ref x0), .val (.int x1), .val (.int x2), .unset] [] := by first | (simp [entryFrame, mkF, argsToLocals, Value.category, maxLocals]; done) | rfl
theorem pn_4 : plainFor (⟨"java/lang/StringLatin1", "lastIndexOf", "([BII)I"⟩ : MethodName) = true := by first | decide +kernel | (apply plainFor_of_name; simp [plainName, overriddenIn]; done)
set_option maxRecDepth 65536 in
set_option maxHeartbeats 40000000 in
theorem rml1 (l : Launch) (Z : State) (a0 : Array Value) (hw : ∀ d ∈ tables_1, d.before a0 Z = true) (t : Nat) (kb : ClassId) (cs : List Int32) (h0 : Heap) (n0 : Nat) (Z0 : n0 ≤ h0.size) (V0 : Arv Z h0 t kb .byte (Int32.ofNat cs.length) ((cs.map (fun c => c.toInt8.toInt32)).map Value.int) (.int (0 : Int32))) (ln : cs.length ≤ 4000) (rg : ∀ c ∈ cs, ¬ c < 0 ∧ ¬ (255 : Int32) < c) :
    NMet l Z (⟨"java/lang/StringLatin1", "lastIndexOf", "([BII)I"⟩ : MethodName) jdk_43_method_27_code 4 (some .int) [] ({ frames := 1, cells := 0, slots := 0, locals := 19 } : Room) [(.ref t), (.int (47 : Int32)), (.int ((Int32.ofNat cs.length) - (1 : Int32)))] h0 n0 [] (fun v h => v = some (.int (own_lix cs (47 : Int32) cs.length)) ∧ h0 = h) := by
  refine MetFree.of_bodySF pn_4 hisR ?_
  intro p e s m args below meth c s₁ Bd hml0 hP hK
  obtain ⟨rfl, hZ, hh⟩ := hP
  have hx := Bd.exec
  have hby := Bd.bytes
  have hml : c.maxLocals = 4 := hml0
  have hnm := (name_of_methodNamed Bd.named Bd.method).1
  have w0 := Wk.start (a0 := a0) (EL := []) (n0 := n0) (nw := true) Bd hZ hh EW.nil chv0 (efl1 m t (47 : Int32) ((Int32.ofNat cs.length) - (1 : Int32))) ({ frames := 1, cells := 0, slots := 0, locals := 19 } : Room) rfl
  have K0 : Keep h0 h0 [] := Keep.refl _ _
  have lt_t := arlt V0
  have w1 := w0.pure (mkF m 1 #[.val (.ref t), .val (.int (47 : Int32)), .val (.int ((Int32.ofNat cs.length) - (1 : Int32))), .unset] [(.int (47 : Int32))]) (fun X eT hZ hown k => by
      show Steps _ _ _ (State.setTop _ (mkF m 0 #[.val (.ref t), .val (.int (47 : Int32)), .val (.int ((Int32.ofNat cs.length) - (1 : Int32))), .unset] [])) _
      refine S.iloadN X.here hx (hb hby dl1_0) rfl ?_
      exact k)
  obtain ⟨v2, h2, Q2, K2, z2, w2⟩ := w1.callS hx (y := (⟨"java/lang/StringLatin1", "canEncode", "(I)Z"⟩ : MethodName)) (W := 0) (hw _ (List.mem_of_getElem? (i := 84) rfl)) (hw _ (List.mem_of_getElem? (i := 85) rfl)) (hw _ (List.mem_of_getElem? (i := 54) rfl)) (hw _ (List.mem_of_getElem? (i := 86) rfl)) (by decide) ((rmlc l Z a0 hw  h0 n0 (by omega) ).pay w1.hZ (hw _ (List.mem_of_getElem? (i := 86) rfl)) (hw _ (List.mem_of_getElem? (i := 54) rfl)) (by decide) (by decide)) rfl (by rw [hml]; rfl) [] (lenOf pd_0 rfl) rfl (by show 2 * 0 + _ ≤ _; exact Nat.le_of_eq rfl) (hb hby dl1_1) (by decide) (by decide) (fun _ q => nomatch q) (fun rv => (mkF m 4 #[.val (.ref t), .val (.int (47 : Int32)), .val (.int ((Int32.ofNat cs.length) - (1 : Int32))), .unset] (rv.toList ++ []))) (fun _ => rfl)
  obtain ⟨rfl, rfl⟩ := Q2
  have w3 := w2.pure (mkF m 14 #[.val (.ref t), .val (.int (47 : Int32)), .val (.int ((Int32.ofNat cs.length) - (1 : Int32))), .unset] [(.int ((Int32.ofNat cs.length) - (1 : Int32))), (.int ((Int32.ofNat cs.length) - (1 : Int32)))]) (fun X eT hZ hown k => by
      show Steps _ _ _ (State.setTop _ (mkF m 4 #[.val (.ref t), .val (.int (47 : Int32)), .val (.int ((Int32.ofNat cs.length) - (1 : Int32))), .unset] [(.int (1 : Int32))])) _
      refine S.ifYes X.here hx 9 (hb hby dl1_4) (by decide) (by decide) (by decide) ?_
      refine S.iloadN X.here hx (hb hby dl1_9) rfl ?_
      refine S.aloadN X.here hx (hb hby dl1_10) rfl rfl ?_
      refine alenV X hx eT hZ V0 rfl rfl (hb hby dl1_11) ?_
      show Steps _ _ _ (State.setTop _ (mkF m 12 #[.val (.ref t), .val (.int (47 : Int32)), .val (.int ((Int32.ofNat cs.length) - (1 : Int32))), .unset] [(.int (Int32.ofNat cs.length)), (.int ((Int32.ofNat cs.length) - (1 : Int32)))])) _
      refine S.iconst X.here hx (1 : Int32) (hb hby dl1_12) rfl ?_
      refine S.isub X.here hx (hb hby dl1_13) ?_
      exact k)
  obtain ⟨v4, h4, Q4, K4, z4, w4⟩ := w3.callS hx (y := (⟨"java/lang/Math", "min", "(II)I"⟩ : MethodName)) (W := 0) (hw _ (List.mem_of_getElem? (i := 87) rfl)) (hw _ (List.mem_of_getElem? (i := 88) rfl)) (hw _ (List.mem_of_getElem? (i := 89) rfl)) (hw _ (List.mem_of_getElem? (i := 90) rfl)) (by decide) ((rmmn l Z a0 hw ((Int32.ofNat cs.length) - (1 : Int32)) ((Int32.ofNat cs.length) - (1 : Int32)) h0 n0 (by omega)).pay w3.hZ (hw _ (List.mem_of_getElem? (i := 90) rfl)) (hw _ (List.mem_of_getElem? (i := 89) rfl)) (by decide) (by decide)) rfl (by rw [hml]; rfl) [] (lenOf pd_1 rfl) rfl (by show 2 * 0 + _ ≤ _; exact Nat.le_of_eq rfl) (hb hby dl1_14) (by decide) (by decide) (fun _ q => nomatch q) (fun rv => (mkF m 17 #[.val (.ref t), .val (.int (47 : Int32)), .val (.int ((Int32.ofNat cs.length) - (1 : Int32))), .unset] (rv.toList ++ []))) (fun _ => rfl)
  obtain ⟨rfl, rfl⟩ := Q4
  have w5 := w4
  rw [own_min_same ((Int32.ofNat cs.length) - (1 : Int32))] at w5
  have w6 := w5.pure (mkF m 18 #[.val (.ref t), .val (.int (47 : Int32)), .val (.int ((Int32.ofNat cs.length) - (1 : Int32))), .val (.int ((Int32.ofNat cs.length) - (1 : Int32)))] []) (fun X eT hZ hown k => by
      show Steps _ _ _ (State.setTop _ (mkF m 17 #[.val (.ref t), .val (.int (47 : Int32)), .val (.int ((Int32.ofNat cs.length) - (1 : Int32))), .unset] [(.int ((Int32.ofNat cs.length) - (1 : Int32)))])) _
      refine S.istoreN X.here hx (hb hby dl1_17) #[.val (.ref t), .val (.int (47 : Int32)), .val (.int ((Int32.ofNat cs.length) - (1 : Int32))), .val (.int ((Int32.ofNat cs.length) - (1 : Int32)))] rfl ?_
      exact k)
  exact own_lixL l Z a0 hw Bd hml t kb cs ((Int32.ofNat cs.length) - (1 : Int32)) h0 n0 Z0 K0 (by omega) V0 rfl ln rg cs.length (Nat.le_refl _) w6
theorem pd_2 : parseMethodDescriptor "()Z" = some ⟨[], some .boolean⟩ := by decide +kernel
theorem pd_3 : parseMethodDescriptor "([BII)I" = some ⟨[(.array .byte), .int, .int], some .int⟩ := by decide +kernel
theorem dl2_0 : decode jdk_42_method_83_code 0 = .ok (.aload_n 0, 1) := by decide +kernel
theorem dl2_1 : decode jdk_42_method_83_code 1 = .ok (.invokevirtual 492, 3) := by decide +kernel
theorem dl2_4 : decode jdk_42_method_83_code 4 = .ok (.ifCond .eq 15, 3) := by decide +kernel
theorem dl2_7 : decode jdk_42_method_83_code 7 = .ok (.aload_n 0, 1) := by decide +kernel
theorem dl2_8 : decode jdk_42_method_83_code 8 = .ok (.getfield 9, 3) := by decide +kernel
theorem dl2_11 : decode jdk_42_method_83_code 11 = .ok (.iload_n 1, 1) := by decide +kernel
theorem dl2_12 : decode jdk_42_method_83_code 12 = .ok (.iload_n 2, 1) := by decide +kernel
theorem dl2_13 : decode jdk_42_method_83_code 13 = .ok (.invokestatic 644, 3) := by decide +kernel
theorem dl2_16 : decode jdk_42_method_83_code 16 = .ok (.goto 12, 3) := by decide +kernel
theorem dl2_28 : decode jdk_42_method_83_code 28 = .ok (.ireturn, 1) := by decide +kernel
theorem efl2 (m : MethodId) (x0 : Nat) (x1 : Int32) (x2 : Int32) : entryFrame m #[(.ref x0), (.int x1), (.int x2)] 3 = mkF m 0 #[.val (.ref x0), .val (.int x1), .val (.int x2)] [] := by first | (simp [entryFrame, mkF, argsToLocals, Value.category, maxLocals]; done) | rfl
theorem pn_5 : plainFor (⟨"java/lang/String", "lastIndexOf", "(II)I"⟩ : MethodName) = true := by first | decide +kernel | (apply plainFor_of_name; simp [plainName, overriddenIn]; done)
set_option maxRecDepth 65536 in
set_option maxHeartbeats 40000000 in
theorem rml2 (l : Launch) (Z : State) (a0 : Array Value) (hw : ∀ d ∈ tables_1, d.before a0 Z = true) (x : Nat) (cs : List Int32) (b : Nat) (h0 : Heap) (n0 : Nat) (Z0 : n0 ≤ h0.size) (hG : SetsOk Z) (X0 : Old Z n0 h0) (Sx : Str Z h0 x cs b) :
    NMet l Z (⟨"java/lang/String", "lastIndexOf", "(II)I"⟩ : MethodName) jdk_42_method_83_code 3 (some .int) [] ({ frames := 2, cells := 0, slots := 0, locals := 34 } : Room) [(.ref x), (.int (47 : Int32)), (.int ((Int32.ofNat cs.length) - (1 : Int32)))] h0 n0 [] (fun v h => v = some (.int (own_lix cs (47 : Int32) cs.length)) ∧ h0 = h) := by
  refine MetFree.of_bodySF pn_5 hisR ?_
  intro p e s m args below meth c s₁ Bd hml0 hP hK
  obtain ⟨rfl, hZ, hh⟩ := hP
  have hx := Bd.exec
  have hby := Bd.bytes
  have hml : c.maxLocals = 3 := hml0
  have hnm := (name_of_methodNamed Bd.named Bd.method).1
  have w0 := Wk.start (a0 := a0) (EL := []) (n0 := n0) (nw := true) Bd hZ hh EW.nil chv0 (efl2 m x (47 : Int32) ((Int32.ofNat cs.length) - (1 : Int32))) ({ frames := 2, cells := 0, slots := 0, locals := 34 } : Room) rfl
  have K0 : Keep h0 h0 [] := Keep.refl _ _
  obtain ⟨t, kb, Ex, Fv, Fc, Kb, rg, ln, bx, bt⟩ := Sx
  have lt_x := exlt Ex
  have lt_t := arlt Kb
  have w1 := w0.pure (mkF m 1 #[.val (.ref x), .val (.int (47 : Int32)), .val (.int ((Int32.ofNat cs.length) - (1 : Int32)))] [(.ref x)]) (fun X eT hZ hown k => by
      show Steps _ _ _ (State.setTop _ (mkF m 0 #[.val (.ref x), .val (.int (47 : Int32)), .val (.int ((Int32.ofNat cs.length) - (1 : Int32)))] [])) _
      refine S.aloadN X.here hx (hb hby dl2_0) rfl rfl ?_
      exact k)
  obtain ⟨v2, h2, Q2, K2, z2, w2⟩ := w1.callV hx (C := "java/lang/String") (y := (⟨"java/lang/String", "isLatin1", "()Z"⟩ : MethodName)) (z := (⟨"java/lang/String", "isLatin1", "()Z"⟩ : MethodName)) (W := 0) (hw _ (List.mem_of_getElem? (i := 76) rfl)) (hw _ (List.mem_of_getElem? (i := 77) rfl)) (hw _ (List.mem_of_getElem? (i := 79) rfl)) (hw _ (List.mem_of_getElem? (i := 78) rfl)) (w1.nf (hw _ (List.mem_of_getElem? (i := 79) rfl))) (by decide) ((rmil l Z a0 hw x h0 n0 (by omega) hG X0 Fc).pay w1.hZ (hw _ (List.mem_of_getElem? (i := 80) rfl)) (hw _ (List.mem_of_getElem? (i := 1) rfl)) (by decide) (by decide)) Ex rfl (by rw [hml]; rfl) [] (lenOf pd_2 rfl) rfl (by show 2 * 0 + _ ≤ _; exact Nat.le_of_eq rfl) (hb hby dl2_1) (by decide) (by decide) (fun _ q => nomatch q) (fun rv => (mkF m 4 #[.val (.ref x), .val (.int (47 : Int32)), .val (.int ((Int32.ofNat cs.length) - (1 : Int32)))] (rv.toList ++ []))) (fun _ => rfl)
  obtain ⟨rfl, rfl⟩ := Q2
  have w3 := w2.pure (mkF m 8 #[.val (.ref x), .val (.int (47 : Int32)), .val (.int ((Int32.ofNat cs.length) - (1 : Int32)))] [(.ref x)]) (fun X eT hZ hown k => by
      show Steps _ _ _ (State.setTop _ (mkF m 4 #[.val (.ref x), .val (.int (47 : Int32)), .val (.int ((Int32.ofNat cs.length) - (1 : Int32)))] [(.int (1 : Int32))])) _
      refine S.ifNo X.here hx (hb hby dl2_4) (by decide) ?_
      refine S.aloadN X.here hx (hb hby dl2_7) rfl rfl ?_
      exact k)
  have w4 := w3.same (mkF m 11 #[.val (.ref x), .val (.int (47 : Int32)), .val (.int ((Int32.ofNat cs.length) - (1 : Int32)))] [(.ref t)]) (fun X eT hZ hown => getF X hx hZ hown (host := "") (Or.inl (hw _ (List.mem_of_getElem? (i := 50) rfl))) Via.refl eT Fv (g := (mkF m 8 #[.val (.ref x), .val (.int (47 : Int32)), .val (.int ((Int32.ofNat cs.length) - (1 : Int32)))] [(.ref x)])) rfl rfl (hb hby dl2_8))
  have w5 := w4.pure (mkF m 13 #[.val (.ref x), .val (.int (47 : Int32)), .val (.int ((Int32.ofNat cs.length) - (1 : Int32)))] [(.int ((Int32.ofNat cs.length) - (1 : Int32))), (.int (47 : Int32)), (.ref t)]) (fun X eT hZ hown k => by
      show Steps _ _ _ (State.setTop _ (mkF m 11 #[.val (.ref x), .val (.int (47 : Int32)), .val (.int ((Int32.ofNat cs.length) - (1 : Int32)))] [(.ref t)])) _
      refine S.iloadN X.here hx (hb hby dl2_11) rfl ?_
      refine S.iloadN X.here hx (hb hby dl2_12) rfl ?_
      exact k)
  obtain ⟨v6, h6, Q6, K6, z6, w6⟩ := w5.callS hx (y := (⟨"java/lang/StringLatin1", "lastIndexOf", "([BII)I"⟩ : MethodName)) (W := 0) (hw _ (List.mem_of_getElem? (i := 81) rfl)) (hw _ (List.mem_of_getElem? (i := 82) rfl)) (hw _ (List.mem_of_getElem? (i := 54) rfl)) (hw _ (List.mem_of_getElem? (i := 83) rfl)) (by decide) ((rml1 l Z a0 hw t kb cs h0 n0 (by omega) Kb ln rg).pay w5.hZ (hw _ (List.mem_of_getElem? (i := 83) rfl)) (hw _ (List.mem_of_getElem? (i := 54) rfl)) (by decide) (by decide)) rfl (by rw [hml]; rfl) [] (lenOf pd_3 rfl) rfl (by show 2 * 0 + _ ≤ _; exact Nat.le_of_eq rfl) (hb hby dl2_13) (by decide) (by decide) (fun _ q => nomatch q) (fun rv => (mkF m 16 #[.val (.ref x), .val (.int (47 : Int32)), .val (.int ((Int32.ofNat cs.length) - (1 : Int32)))] (rv.toList ++ []))) (fun _ => rfl)
  obtain ⟨rfl, rfl⟩ := Q6
  have w7 := w6.pure (mkF m 28 #[.val (.ref x), .val (.int (47 : Int32)), .val (.int ((Int32.ofNat cs.length) - (1 : Int32)))] [(.int (own_lix cs (47 : Int32) cs.length))]) (fun X eT hZ hown k => by
      show Steps _ _ _ (State.setTop _ (mkF m 16 #[.val (.ref x), .val (.int (47 : Int32)), .val (.int ((Int32.ofNat cs.length) - (1 : Int32)))] [(.int (own_lix cs (47 : Int32) cs.length))])) _
      refine S.goto X.here hx 28 (hb hby dl2_16) (by decide) (by decide) ?_
      exact k)
  exact w7.endN (v := some (.int (own_lix cs (47 : Int32) cs.length))) (Q := (fun v h => v = some (.int (own_lix cs (47 : Int32) cs.length)) ∧ h0 = h)) (wr := []) (h0 := h0) (fun h => by rw [Bd.returns] at h; cases h) Bd.notSynchronized (fun X hr => retI X hx Bd.returns (hb hby dl2_28) hr) (by decide) (by decide) ⟨rfl, rfl⟩ K0
theorem pd_4 : parseMethodDescriptor "()I" = some ⟨[], some .int⟩ := by decide +kernel
theorem dl3_0 : decode jdk_42_method_82_code 0 = .ok (.aload_n 0, 1) := by decide +kernel
theorem dl3_1 : decode jdk_42_method_82_code 1 = .ok (.iload_n 1, 1) := by decide +kernel
theorem dl3_2 : decode jdk_42_method_82_code 2 = .ok (.aload_n 0, 1) := by decide +kernel
theorem dl3_3 : decode jdk_42_method_82_code 3 = .ok (.invokevirtual 505, 3) := by decide +kernel
theorem dl3_6 : decode jdk_42_method_82_code 6 = .ok (.iconst 1, 1) := by decide +kernel
theorem dl3_7 : decode jdk_42_method_82_code 7 = .ok (.isub, 1) := by decide +kernel
theorem dl3_8 : decode jdk_42_method_82_code 8 = .ok (.invokevirtual 641, 3) := by decide +kernel
theorem dl3_11 : decode jdk_42_method_82_code 11 = .ok (.ireturn, 1) := by decide +kernel
theorem efl3 (m : MethodId) (x0 : Nat) (x1 : Int32) : entryFrame m #[(.ref x0), (.int x1)] 2 = mkF m 0 #[.val (.ref x0), .val (.int x1)] [] := by first | (simp [entryFrame, mkF, argsToLocals, Value.category, maxLocals]; done) | rfl
theorem pn_6 : plainFor (⟨"java/lang/String", "lastIndexOf", "(I)I"⟩ : MethodName) = true := by first | decide +kernel | (apply plainFor_of_name; simp [plainName, overriddenIn]; done)
set_option maxRecDepth 65536 in
set_option maxHeartbeats 40000000 in
theorem rml3 (l : Launch) (Z : State) (a0 : Array Value) (hw : ∀ d ∈ tables_1, d.before a0 Z = true) (x : Nat) (cs : List Int32) (b : Nat) (h0 : Heap) (n0 : Nat) (Z0 : n0 ≤ h0.size) (hG : SetsOk Z) (X0 : Old Z n0 h0) (Sx : Str Z h0 x cs b) :
    NMet l Z (⟨"java/lang/String", "lastIndexOf", "(I)I"⟩ : MethodName) jdk_42_method_82_code 2 (some .int) [] ({ frames := 3, cells := 0, slots := 0, locals := 48 } : Room) [(.ref x), (.int (47 : Int32))] h0 n0 [] (fun v h => v = some (.int (own_lix cs (47 : Int32) cs.length)) ∧ h0 = h) := by
  refine MetFree.of_bodySF pn_6 hisR ?_
  intro p e s m args below meth c s₁ Bd hml0 hP hK
  obtain ⟨rfl, hZ, hh⟩ := hP
  have hx := Bd.exec
  have hby := Bd.bytes
  have hml : c.maxLocals = 2 := hml0
  have hnm := (name_of_methodNamed Bd.named Bd.method).1
  have w0 := Wk.start (a0 := a0) (EL := []) (n0 := n0) (nw := true) Bd hZ hh EW.nil chv0 (efl3 m x (47 : Int32)) ({ frames := 3, cells := 0, slots := 0, locals := 48 } : Room) rfl
  have K0 : Keep h0 h0 [] := Keep.refl _ _
  have lt_Sx := Sx.lt
  have hq_lenW : ∀ d ∈ StrChars.Road.wordsLen, d.before a0 Z = true := fun d hd => hw d ((by decide +kernel : ∀ d ∈ StrChars.Road.wordsLen, d ∈ tables_1) d hd)
  have w1 := w0.pure (mkF m 3 #[.val (.ref x), .val (.int (47 : Int32))] [(.ref x), (.int (47 : Int32)), (.ref x)]) (fun X eT hZ hown k => by
      show Steps _ _ _ (State.setTop _ (mkF m 0 #[.val (.ref x), .val (.int (47 : Int32))] [])) _
      refine S.aloadN X.here hx (hb hby dl3_0) rfl rfl ?_
      refine S.iloadN X.here hx (hb hby dl3_1) rfl ?_
      refine S.aloadN X.here hx (hb hby dl3_2) rfl rfl ?_
      exact k)
  obtain ⟨v2, h2, Q2, K2, z2, w2⟩ := w1.callV hx (C := "java/lang/String") (y := (⟨"java/lang/String", "length", "()I"⟩ : MethodName)) (z := (⟨"java/lang/String", "length", "()I"⟩ : MethodName)) (W := 2) (hw _ (List.mem_of_getElem? (i := 61) rfl)) (hw _ (List.mem_of_getElem? (i := 62) rfl)) (hw _ (List.mem_of_getElem? (i := 64) rfl)) (hw _ (List.mem_of_getElem? (i := 63) rfl)) (w1.nf (hw _ (List.mem_of_getElem? (i := 64) rfl))) (by decide) (payLen hG w1.hZ hq_lenW (hw _ (List.mem_of_getElem? (i := 2) rfl)) Sx X0 (by decide) (by decide)) Sx.exa rfl (by rw [hml]; rfl) [(.int (47 : Int32)), (.ref x)] (lenOf pd_4 rfl) rfl (by show 2 * 0 + _ ≤ _; exact Nat.le_of_eq rfl) (hb hby dl3_3) (by decide) (by decide) (fun _ q => nomatch q) (fun rv => (mkF m 6 #[.val (.ref x), .val (.int (47 : Int32))] (rv.toList ++ [(.int (47 : Int32)), (.ref x)]))) (fun _ => rfl)
  obtain ⟨rfl, rfl⟩ := Q2
  have w3 := w2.pure (mkF m 8 #[.val (.ref x), .val (.int (47 : Int32))] [(.int ((Int32.ofNat cs.length) - (1 : Int32))), (.int (47 : Int32)), (.ref x)]) (fun X eT hZ hown k => by
      show Steps _ _ _ (State.setTop _ (mkF m 6 #[.val (.ref x), .val (.int (47 : Int32))] [(.int (Int32.ofNat cs.length)), (.int (47 : Int32)), (.ref x)])) _
      refine S.iconst X.here hx (1 : Int32) (hb hby dl3_6) rfl ?_
      refine S.isub X.here hx (hb hby dl3_7) ?_
      exact k)
  obtain ⟨v4, h4, Q4, K4, z4, w4⟩ := w3.callV hx (C := "java/lang/String") (y := (⟨"java/lang/String", "lastIndexOf", "(II)I"⟩ : MethodName)) (z := (⟨"java/lang/String", "lastIndexOf", "(II)I"⟩ : MethodName)) (W := 0) (hw _ (List.mem_of_getElem? (i := 71) rfl)) (hw _ (List.mem_of_getElem? (i := 72) rfl)) (hw _ (List.mem_of_getElem? (i := 74) rfl)) (hw _ (List.mem_of_getElem? (i := 73) rfl)) (w3.nf (hw _ (List.mem_of_getElem? (i := 74) rfl))) (by decide) ((rml2 l Z a0 hw x cs _ h0 n0 (by omega) hG X0 Sx).pay w3.hZ (hw _ (List.mem_of_getElem? (i := 75) rfl)) (hw _ (List.mem_of_getElem? (i := 1) rfl)) (by decide) (by decide)) Sx.exa rfl (by rw [hml]; rfl) [] (lenOf pd_1 rfl) rfl (by show 2 * 0 + _ ≤ _; exact Nat.le_of_eq rfl) (hb hby dl3_8) (by decide) (by decide) (fun _ q => nomatch q) (fun rv => (mkF m 11 #[.val (.ref x), .val (.int (47 : Int32))] (rv.toList ++ []))) (fun _ => rfl)
  obtain ⟨rfl, rfl⟩ := Q4
  exact w4.endN (v := some (.int (own_lix cs (47 : Int32) cs.length))) (Q := (fun v h => v = some (.int (own_lix cs (47 : Int32) cs.length)) ∧ h0 = h)) (wr := []) (h0 := h0) (fun h => by rw [Bd.returns] at h; cases h) Bd.notSynchronized (fun X hr => retI X hx Bd.returns (hb hby dl3_11) hr) (by decide) (by decide) ⟨rfl, rfl⟩ K0
theorem ds0_0 : decode jdk_65_method_131_code 0 = .ok (.iload_n 1, 1) := by decide +kernel
theorem ds0_1 : decode jdk_65_method_131_code 1 = .ok (.iload_n 0, 1) := by decide +kernel
theorem ds0_2 : decode jdk_65_method_131_code 2 = .ok (.if_icmp .ge 35, 3) := by decide +kernel
theorem ds0_37 : decode jdk_65_method_131_code 37 = .ok (.return_, 1) := by decide +kernel
theorem efs0 (m : MethodId) (x0 : Int32) (x1 : Int32) : entryFrame m #[(.int x0), (.int x1)] 2 = mkF m 0 #[.val (.int x0), .val (.int x1)] [] := by first | (simp [entryFrame, mkF, argsToLocals, Value.category, maxLocals]; done) | rfl
theorem pn_7 : plainFor (⟨"java/util/Arrays", "checkLength", "(II)V"⟩ : MethodName) = true := by first | decide +kernel | (apply plainFor_of_name; simp [plainName, overriddenIn]; done)
set_option maxRecDepth 65536 in
set_option maxHeartbeats 40000000 in
theorem rms0 (l : Launch) (Z : State) (a0 : Array Value) (hw : ∀ d ∈ tables_1, d.before a0 Z = true) (p0 p1 : Int32) (h0 : Heap) (n0 : Nat) (Z0 : n0 ≤ h0.size) (q : ¬ p1 < p0) :
    NMet l Z (⟨"java/util/Arrays", "checkLength", "(II)V"⟩ : MethodName) jdk_65_method_131_code 2 none [] ({ frames := 0, cells := 0, slots := 0, locals := 0 } : Room) [(.int p0), (.int p1)] h0 n0 [] (fun v h => v = none ∧ h0 = h) := by
  refine MetFree.of_bodySF pn_7 hisR ?_
  intro p e s m args below meth c s₁ Bd hml0 hP hK
  obtain ⟨rfl, hZ, hh⟩ := hP
  have hx := Bd.exec
  have hby := Bd.bytes
  have hml : c.maxLocals = 2 := hml0
  have hnm := (name_of_methodNamed Bd.named Bd.method).1
  have w0 := Wk.start (a0 := a0) (EL := []) (n0 := n0) (nw := true) Bd hZ hh EW.nil chv0 (efs0 m p0 p1) ({ frames := 0, cells := 0, slots := 0, locals := 0 } : Room) rfl
  have K0 : Keep h0 h0 [] := Keep.refl _ _
  have w1 := w0.pure (mkF m 37 #[.val (.int p0), .val (.int p1)] []) (fun X eT hZ hown k => by
      show Steps _ _ _ (State.setTop _ (mkF m 0 #[.val (.int p0), .val (.int p1)] [])) _
      refine S.iloadN X.here hx (hb hby ds0_0) rfl ?_
      refine S.iloadN X.here hx (hb hby ds0_1) rfl ?_
      refine S.icmpYes X.here hx 37 (hb hby ds0_2) (flt q).2.1 (by decide) (by decide) ?_
      exact k)
  exact w1.endN (v := none) (Q := (fun v h => v = none ∧ h0 = h)) (wr := []) (h0 := h0) (fun _ => rfl) Bd.notSynchronized (fun X hr => X.returnOut hx Bd.returns (hb hby ds0_37) hr) (by decide) (by decide) ⟨rfl, rfl⟩ K0
theorem own_pad {n : Nat} {dv : Value} (us : List Value) : (([] : List Value) ++ List.replicate n dv).take 0 ++ us ++ (([] : List Value) ++ List.replicate n dv).drop (0 + n) = us := by simp
theorem pd_5 : parseMethodDescriptor "(II)V" = some ⟨[.int, .int], none⟩ := by decide +kernel
theorem ds1_0 : decode jdk_65_method_133_code 0 = .ok (.iload_n 1, 1) := by decide +kernel
theorem ds1_1 : decode jdk_65_method_133_code 1 = .ok (.iload_n 2, 1) := by decide +kernel
theorem ds1_2 : decode jdk_65_method_133_code 2 = .ok (.invokestatic 343, 3) := by decide +kernel
theorem ds1_5 : decode jdk_65_method_133_code 5 = .ok (.iload_n 2, 1) := by decide +kernel
theorem ds1_6 : decode jdk_65_method_133_code 6 = .ok (.iload_n 1, 1) := by decide +kernel
theorem ds1_7 : decode jdk_65_method_133_code 7 = .ok (.isub, 1) := by decide +kernel
theorem ds1_8 : decode jdk_65_method_133_code 8 = .ok (.istore_n 3, 1) := by decide +kernel
theorem ds1_9 : decode jdk_65_method_133_code 9 = .ok (.iload_n 3, 1) := by decide +kernel
theorem ds1_10 : decode jdk_65_method_133_code 10 = .ok (.newarray .byte, 2) := by decide +kernel
theorem ds1_12 : decode jdk_65_method_133_code 12 = .ok (.astore 4, 2) := by decide +kernel
theorem ds1_14 : decode jdk_65_method_133_code 14 = .ok (.aload_n 0, 1) := by decide +kernel
theorem ds1_15 : decode jdk_65_method_133_code 15 = .ok (.iload_n 1, 1) := by decide +kernel
theorem ds1_16 : decode jdk_65_method_133_code 16 = .ok (.aload 4, 2) := by decide +kernel
theorem ds1_18 : decode jdk_65_method_133_code 18 = .ok (.iconst 0, 1) := by decide +kernel
theorem ds1_19 : decode jdk_65_method_133_code 19 = .ok (.aload_n 0, 1) := by decide +kernel
theorem ds1_20 : decode jdk_65_method_133_code 20 = .ok (.arraylength, 1) := by decide +kernel
theorem ds1_21 : decode jdk_65_method_133_code 21 = .ok (.iload_n 1, 1) := by decide +kernel
theorem ds1_22 : decode jdk_65_method_133_code 22 = .ok (.isub, 1) := by decide +kernel
theorem ds1_23 : decode jdk_65_method_133_code 23 = .ok (.iload_n 3, 1) := by decide +kernel
theorem ds1_24 : decode jdk_65_method_133_code 24 = .ok (.invokestatic 304, 3) := by decide +kernel
theorem ds1_27 : decode jdk_65_method_133_code 27 = .ok (.invokestatic 150, 3) := by decide +kernel
theorem ds1_30 : decode jdk_65_method_133_code 30 = .ok (.aload 4, 2) := by decide +kernel
theorem ds1_32 : decode jdk_65_method_133_code 32 = .ok (.areturn, 1) := by decide +kernel
theorem efs1 (m : MethodId) (x0 : Nat) (x1 : Int32) (x2 : Int32) : entryFrame m #[(.ref x0), (.int x1), (.int x2)] 5 = mkF m 0 #[.val (.ref x0), .val (.int x1), .val (.int x2), .unset, .unset] [] := by first | (simp [entryFrame, mkF, argsToLocals, Value.category, maxLocals]; done) | rfl
theorem pn_8 : plainFor (⟨"java/util/Arrays", "copyOfRangeByte", "([BII)[B"⟩ : MethodName) = true := by first | decide +kernel | (apply plainFor_of_name; simp [plainName, overriddenIn]; done)
set_option maxRecDepth 65536 in
set_option maxHeartbeats 40000000 in
theorem rms1 (l : Launch) (Z : State) (a0 : Array Value) (hw : ∀ d ∈ tables_1, d.before a0 Z = true) (t : Nat) (kb : ClassId) (cs : List Int32) (b n : Nat) (h0 : Heap) (n0 : Nat) (Z0 : n0 ≤ h0.size) (V0 : Arv Z h0 t kb .byte (Int32.ofNat cs.length) ((cs.map (fun c => c.toInt8.toInt32)).map Value.int) (.int (0 : Int32))) (hbn : b + n ≤ cs.length) (ln : cs.length ≤ 4000) (hcap : n ≤ 8) :
    NMet l Z (⟨"java/util/Arrays", "copyOfRangeByte", "([BII)[B"⟩ : MethodName) jdk_65_method_133_code 5 (some (.array .byte)) [] ({ frames := 1, cells := 1, slots := 8, locals := 27 } : Room) [(.ref t), (.int (Int32.ofNat b)), (.int (Int32.ofNat (b + n)))] h0 n0 [] (fun v h => ∃ (r : Nat) (k : ClassId), v = some (.ref r) ∧ h0.size ≤ r ∧ Arv Z h r k .byte (Int32.ofNat n) (own_slb cs b n) (.int (0 : Int32))) := by
  refine MetFree.of_bodySF pn_8 hisR ?_
  intro p e s m args below meth c s₁ Bd hml0 hP hK
  obtain ⟨rfl, hZ, hh⟩ := hP
  have hx := Bd.exec
  have hby := Bd.bytes
  have hml : c.maxLocals = 5 := hml0
  have hnm := (name_of_methodNamed Bd.named Bd.method).1
  have w0 := Wk.start (a0 := a0) (EL := []) (n0 := n0) (nw := true) Bd hZ hh EW.nil chv0 (efs1 m t (Int32.ofNat b) (Int32.ofNat (b + n))) ({ frames := 1, cells := 1, slots := 8, locals := 27 } : Room) rfl
  have K0 : Keep h0 h0 [] := Keep.refl _ _
  have lt_V0 := arlt V0
  have w1 := w0.pure (mkF m 2 #[.val (.ref t), .val (.int (Int32.ofNat b)), .val (.int (Int32.ofNat (b + n))), .unset, .unset] [(.int (Int32.ofNat (b + n))), (.int (Int32.ofNat b))]) (fun X eT hZ hown k => by
      show Steps _ _ _ (State.setTop _ (mkF m 0 #[.val (.ref t), .val (.int (Int32.ofNat b)), .val (.int (Int32.ofNat (b + n))), .unset, .unset] [])) _
      refine S.iloadN X.here hx (hb hby ds1_0) rfl ?_
      refine S.iloadN X.here hx (hb hby ds1_1) rfl ?_
      exact k)
  obtain ⟨v2, h2, Q2, K2, z2, w2⟩ := w1.callS hx (y := (⟨"java/util/Arrays", "checkLength", "(II)V"⟩ : MethodName)) (W := 0) (hw _ (List.mem_of_getElem? (i := 116) rfl)) (hw _ (List.mem_of_getElem? (i := 117) rfl)) (hw _ (List.mem_of_getElem? (i := 111) rfl)) (hw _ (List.mem_of_getElem? (i := 118) rfl)) (by decide) ((rms0 l Z a0 hw (Int32.ofNat b) (Int32.ofNat (b + n)) h0 n0 (by omega) (fun q => absurd ((i_lt (by omega) (by omega)).mp q) (by omega))).pay w1.hZ (hw _ (List.mem_of_getElem? (i := 118) rfl)) (hw _ (List.mem_of_getElem? (i := 111) rfl)) (by decide) (by decide)) rfl (by rw [hml]; rfl) [] (lenOf pd_5 rfl) rfl (by show 2 * 0 + _ ≤ _; exact Nat.le_of_eq rfl) (hb hby ds1_2) (by decide) (by decide) (fun _ q => nomatch q) (fun rv => (mkF m 5 #[.val (.ref t), .val (.int (Int32.ofNat b)), .val (.int (Int32.ofNat (b + n))), .unset, .unset] (rv.toList ++ []))) (fun _ => rfl)
  obtain ⟨rfl, rfl⟩ := Q2
  have w3 := w2.pure (mkF m 9 #[.val (.ref t), .val (.int (Int32.ofNat b)), .val (.int (Int32.ofNat (b + n))), .val (.int ((Int32.ofNat (b + n)) - (Int32.ofNat b))), .unset] []) (fun X eT hZ hown k => by
      show Steps _ _ _ (State.setTop _ (mkF m 5 #[.val (.ref t), .val (.int (Int32.ofNat b)), .val (.int (Int32.ofNat (b + n))), .unset, .unset] [])) _
      refine S.iloadN X.here hx (hb hby ds1_5) rfl ?_
      refine S.iloadN X.here hx (hb hby ds1_6) rfl ?_
      refine S.isub X.here hx (hb hby ds1_7) ?_
      refine S.istoreN X.here hx (hb hby ds1_8) #[.val (.ref t), .val (.int (Int32.ofNat b)), .val (.int (Int32.ofNat (b + n))), .val (.int ((Int32.ofNat (b + n)) - (Int32.ofNat b))), .unset] rfl ?_
      exact k)
  have w4 := w3
  rw [i_sub] at w4
  have w5 := w4.pure (mkF m 10 #[.val (.ref t), .val (.int (Int32.ofNat b)), .val (.int (Int32.ofNat (b + n))), .val (.int (Int32.ofNat n)), .unset] [(.int (Int32.ofNat n))]) (fun X eT hZ hown k => by
      show Steps _ _ _ (State.setTop _ (mkF m 9 #[.val (.ref t), .val (.int (Int32.ofNat b)), .val (.int (Int32.ofNat (b + n))), .val (.int (Int32.ofNat n)), .unset] [])) _
      refine S.iloadN X.here hx (hb hby ds1_9) rfl ?_
      exact k)
  obtain ⟨b6, h6, k6, g6, E6, l6, A6, y6, w6⟩ := w5.newP hx (hw _ (List.mem_of_getElem? (i := 3) rfl)) rfl (hb hby ds1_10) rfl (i_nn (by omega)) 8 (by rw [i_clamp (by omega)]; exact hcap) (by decide) (by decide) (by decide) (fun xq => (mkF m 12 #[.val (.ref t), .val (.int (Int32.ofNat b)), .val (.int (Int32.ofNat (b + n))), .val (.int (Int32.ofNat n)), .unset] (.ref xq :: []))) (fun _ => rfl)
  have z6 := E6.1
  have K7 : Keep h0 h6 [] := K0.ext E6
  have V6 : Arv Z h6 b6 k6 .byte (Int32.ofNat n) [] (.int (0 : Int32)) := A6
  have P8 : Arv Z h6 b6 k6 .byte (Int32.ofNat n) (([] : List Value) ++ List.replicate n (.int (0 : Int32))) (.int (0 : Int32)) := V6.pad (pad_rep [] _ n)
  have F9 := V0.ext E6
  have w10 := w6.pure (mkF m 24 #[.val (.ref t), .val (.int (Int32.ofNat b)), .val (.int (Int32.ofNat (b + n))), .val (.int (Int32.ofNat n)), .val (.ref b6)] [(.int (Int32.ofNat n)), (.int ((Int32.ofNat cs.length) - (Int32.ofNat b))), (.int (0 : Int32)), (.ref b6), (.int (Int32.ofNat b)), (.ref t)]) (fun X eT hZ hown k => by
      show Steps _ _ _ (State.setTop _ (mkF m 12 #[.val (.ref t), .val (.int (Int32.ofNat b)), .val (.int (Int32.ofNat (b + n))), .val (.int (Int32.ofNat n)), .unset] [(.ref b6)])) _
      refine S.astore X.here hx (hb hby ds1_12) rfl #[.val (.ref t), .val (.int (Int32.ofNat b)), .val (.int (Int32.ofNat (b + n))), .val (.int (Int32.ofNat n)), .val (.ref b6)] rfl ?_
      refine S.aloadN X.here hx (hb hby ds1_14) rfl rfl ?_
      refine S.iloadN X.here hx (hb hby ds1_15) rfl ?_
      refine S.aload X.here hx (hb hby ds1_16) rfl rfl ?_
      refine S.iconst X.here hx (0 : Int32) (hb hby ds1_18) rfl ?_
      refine S.aloadN X.here hx (hb hby ds1_19) rfl rfl ?_
      refine alenV X hx eT hZ F9 rfl rfl (hb hby ds1_20) ?_
      show Steps _ _ _ (State.setTop _ (mkF m 21 #[.val (.ref t), .val (.int (Int32.ofNat b)), .val (.int (Int32.ofNat (b + n))), .val (.int (Int32.ofNat n)), .val (.ref b6)] [(.int (Int32.ofNat cs.length)), (.int (0 : Int32)), (.ref b6), (.int (Int32.ofNat b)), (.ref t)])) _
      refine S.iloadN X.here hx (hb hby ds1_21) rfl ?_
      refine S.isub X.here hx (hb hby ds1_22) ?_
      refine S.iloadN X.here hx (hb hby ds1_23) rfl ?_
      exact k)
  obtain ⟨v11, h11, Q11, K11, z11, w11⟩ := w10.callS hx (y := (⟨"java/lang/Math", "min", "(II)I"⟩ : MethodName)) (W := 4) (hw _ (List.mem_of_getElem? (i := 119) rfl)) (hw _ (List.mem_of_getElem? (i := 88) rfl)) (hw _ (List.mem_of_getElem? (i := 89) rfl)) (hw _ (List.mem_of_getElem? (i := 90) rfl)) (by decide) ((rmmn l Z a0 hw ((Int32.ofNat cs.length) - (Int32.ofNat b)) (Int32.ofNat n) h6 n0 (by omega)).pay w10.hZ (hw _ (List.mem_of_getElem? (i := 90) rfl)) (hw _ (List.mem_of_getElem? (i := 89) rfl)) (by decide) (by decide)) rfl (by rw [hml]; rfl) [(.int (0 : Int32)), (.ref b6), (.int (Int32.ofNat b)), (.ref t)] (lenOf pd_1 rfl) rfl (by show 2 * 0 + _ ≤ _; exact Nat.le_of_eq rfl) (hb hby ds1_24) (by decide) (by decide) (fun _ q => nomatch q) (fun rv => (mkF m 27 #[.val (.ref t), .val (.int (Int32.ofNat b)), .val (.int (Int32.ofNat (b + n))), .val (.int (Int32.ofNat n)), .val (.ref b6)] (rv.toList ++ [(.int (0 : Int32)), (.ref b6), (.int (Int32.ofNat b)), (.ref t)]))) (fun _ => rfl)
  obtain ⟨rfl, rfl⟩ := Q11
  have w12 := w11
  rw [own_min_cp hbn ln] at w12
  obtain ⟨h13, K13, z13, V13, w13⟩ := w12.cpB hx (hw _ (List.mem_of_getElem? (i := 120) rfl)) (hw _ (List.mem_of_getElem? (i := 123) rfl)) (hw _ (List.mem_of_getElem? (i := 121) rfl)) (hw _ (List.mem_of_getElem? (i := 122) rfl)) F9 P8 (i_nn (by omega)) (by decide) (i_nn (by omega)) (by rw [i_clamp (by omega), i_clamp (by omega), i_clamp (by omega)]; omega) (by rw [i_clamp (by omega)]; exact Nat.le_of_eq (Nat.zero_add _)) rfl (by rw [i_clamp (by omega)]; simp) (by omega) (allS safe0 all0) rfl (by rw [hml]; rfl) rfl (hb hby ds1_27) (by decide) (W := 0) (by show 2 * 0 + _ ≤ _; exact Nat.le_of_eq rfl) (by decide) (mkF m 30 #[.val (.ref t), .val (.int (Int32.ofNat b)), .val (.int (Int32.ofNat (b + n))), .val (.int (Int32.ofNat n)), .val (.ref b6)] []) rfl
  rw [i_clamp (by omega : n ≤ 4000), i_clamp (by omega : b ≤ 4000), own_copy hbn, show (0 : Int32).toNatClampNeg = 0 from rfl, own_pad] at V13
  have K14 : Keep h0 h13 [] := K7.trans K13 (allS (Or.inr (by omega)) (fun _ q => nomatch q))
  have w15 := w13.pure (mkF m 32 #[.val (.ref t), .val (.int (Int32.ofNat b)), .val (.int (Int32.ofNat (b + n))), .val (.int (Int32.ofNat n)), .val (.ref b6)] [(.ref b6)]) (fun X eT hZ hown k => by
      show Steps _ _ _ (State.setTop _ (mkF m 30 #[.val (.ref t), .val (.int (Int32.ofNat b)), .val (.int (Int32.ofNat (b + n))), .val (.int (Int32.ofNat n)), .val (.ref b6)] [])) _
      refine S.aload X.here hx (hb hby ds1_30) rfl rfl ?_
      exact k)
  exact w15.endN (v := some (.ref b6)) (Q := (fun v h => ∃ (r : Nat) (k : ClassId), v = some (.ref r) ∧ h0.size ≤ r ∧ Arv Z h r k .byte (Int32.ofNat n) (own_slb cs b n) (.int (0 : Int32)))) (wr := []) (h0 := h0) (fun h => by rw [Bd.returns] at h; cases h) Bd.notSynchronized (fun X hr => X.areturnOut hx rfl Bd.returns rfl (hb hby ds1_32) hr) (by decide) (by decide) ⟨b6, k6, rfl, by omega, V13⟩ K14
theorem own_whole {b n L : Nat} (hbn : b + n ≤ L) (ln : L ≤ 4000) (q0 : Int32.ofNat b = (0 : Int32)) (q1 : Int32.ofNat (b + n) = Int32.ofNat L) : b = 0 ∧ n = L := by
  have e0 : b = 0 := (i_eq (by omega) (by omega)).mp (show Int32.ofNat b = Int32.ofNat 0 from q0)
  have e1 := (i_eq (by omega) (by omega)).mp q1
  omega
theorem pd_6 : parseMethodDescriptor "([BII)[B" = some ⟨[(.array .byte), .int, .int], some (.array .byte)⟩ := by decide +kernel
theorem ds2_0 : decode jdk_65_method_132_code 0 = .ok (.iload_n 1, 1) := by decide +kernel
theorem ds2_1 : decode jdk_65_method_132_code 1 = .ok (.ifCond .ne 9, 3) := by decide +kernel
theorem ds2_4 : decode jdk_65_method_132_code 4 = .ok (.iload_n 2, 1) := by decide +kernel
theorem ds2_5 : decode jdk_65_method_132_code 5 = .ok (.aload_n 0, 1) := by decide +kernel
theorem ds2_6 : decode jdk_65_method_132_code 6 = .ok (.arraylength, 1) := by decide +kernel
theorem ds2_7 : decode jdk_65_method_132_code 7 = .ok (.if_icmp .eq 10, 3) := by decide +kernel
theorem ds2_10 : decode jdk_65_method_132_code 10 = .ok (.aload_n 0, 1) := by decide +kernel
theorem ds2_11 : decode jdk_65_method_132_code 11 = .ok (.iload_n 1, 1) := by decide +kernel
theorem ds2_12 : decode jdk_65_method_132_code 12 = .ok (.iload_n 2, 1) := by decide +kernel
theorem ds2_13 : decode jdk_65_method_132_code 13 = .ok (.invokestatic 339, 3) := by decide +kernel
theorem ds2_16 : decode jdk_65_method_132_code 16 = .ok (.areturn, 1) := by decide +kernel
theorem efs2 (m : MethodId) (x0 : Nat) (x1 : Int32) (x2 : Int32) : entryFrame m #[(.ref x0), (.int x1), (.int x2)] 3 = mkF m 0 #[.val (.ref x0), .val (.int x1), .val (.int x2)] [] := by first | (simp [entryFrame, mkF, argsToLocals, Value.category, maxLocals]; done) | rfl
theorem pn_9 : plainFor (⟨"java/util/Arrays", "copyOfRange", "([BII)[B"⟩ : MethodName) = true := by first | decide +kernel | (apply plainFor_of_name; simp [plainName, overriddenIn]; done)
set_option maxRecDepth 65536 in
set_option maxHeartbeats 40000000 in
theorem rms2 (l : Launch) (Z : State) (a0 : Array Value) (hw : ∀ d ∈ tables_1, d.before a0 Z = true) (t : Nat) (kb : ClassId) (cs : List Int32) (b n : Nat) (h0 : Heap) (n0 : Nat) (Z0 : n0 ≤ h0.size) (V0 : Arv Z h0 t kb .byte (Int32.ofNat cs.length) ((cs.map (fun c => c.toInt8.toInt32)).map Value.int) (.int (0 : Int32))) (hbn : b + n ≤ cs.length) (ln : cs.length ≤ 4000) (hcap : n ≤ 8) (hne : ¬ (b = 0 ∧ n = cs.length)) :
    NMet l Z (⟨"java/util/Arrays", "copyOfRange", "([BII)[B"⟩ : MethodName) jdk_65_method_132_code 3 (some (.array .byte)) [] ({ frames := 2, cells := 1, slots := 8, locals := 43 } : Room) [(.ref t), (.int (Int32.ofNat b)), (.int (Int32.ofNat (b + n)))] h0 n0 [] (fun v h => ∃ (r : Nat) (k : ClassId), v = some (.ref r) ∧ h0.size ≤ r ∧ Arv Z h r k .byte (Int32.ofNat n) (own_slb cs b n) (.int (0 : Int32))) := by
  refine MetFree.of_bodySF pn_9 hisR ?_
  intro p e s m args below meth c s₁ Bd hml0 hP hK
  obtain ⟨rfl, hZ, hh⟩ := hP
  have hx := Bd.exec
  have hby := Bd.bytes
  have hml : c.maxLocals = 3 := hml0
  have hnm := (name_of_methodNamed Bd.named Bd.method).1
  have w0 := Wk.start (a0 := a0) (EL := []) (n0 := n0) (nw := true) Bd hZ hh EW.nil chv0 (efs2 m t (Int32.ofNat b) (Int32.ofNat (b + n))) ({ frames := 2, cells := 1, slots := 8, locals := 43 } : Room) rfl
  have K0 : Keep h0 h0 [] := Keep.refl _ _
  have lt_V0 := arlt V0
  have w1 := w0.pure (mkF m 1 #[.val (.ref t), .val (.int (Int32.ofNat b)), .val (.int (Int32.ofNat (b + n)))] [(.int (Int32.ofNat b))]) (fun X eT hZ hown k => by
      show Steps _ _ _ (State.setTop _ (mkF m 0 #[.val (.ref t), .val (.int (Int32.ofNat b)), .val (.int (Int32.ofNat (b + n)))] [])) _
      refine S.iloadN X.here hx (hb hby ds2_0) rfl ?_
      exact k)
  by_cases hc2 : (Int32.ofNat b) = (0 : Int32)
  · have w3 := w1.pure (mkF m 13 #[.val (.ref t), .val (.int (Int32.ofNat b)), .val (.int (Int32.ofNat (b + n)))] [(.int (Int32.ofNat (b + n))), (.int (Int32.ofNat b)), (.ref t)]) (fun X eT hZ hown k => by
        show Steps _ _ _ (State.setTop _ (mkF m 1 #[.val (.ref t), .val (.int (Int32.ofNat b)), .val (.int (Int32.ofNat (b + n)))] [(.int (Int32.ofNat b))])) _
        refine S.ifNo X.here hx (hb hby ds2_1) ((if0 _ _).trans (teq hc2).2) ?_
        refine S.iloadN X.here hx (hb hby ds2_4) rfl ?_
        refine S.aloadN X.here hx (hb hby ds2_5) rfl rfl ?_
        refine alenV X hx eT hZ V0 rfl rfl (hb hby ds2_6) ?_
        show Steps _ _ _ (State.setTop _ (mkF m 7 #[.val (.ref t), .val (.int (Int32.ofNat b)), .val (.int (Int32.ofNat (b + n)))] [(.int (Int32.ofNat cs.length)), (.int (Int32.ofNat (b + n)))])) _
        refine S.icmpNo X.here hx (hb hby ds2_7) (feq (fun q => hne (own_whole hbn ln hc2 q))).1 ?_
        refine S.aloadN X.here hx (hb hby ds2_10) rfl rfl ?_
        refine S.iloadN X.here hx (hb hby ds2_11) rfl ?_
        refine S.iloadN X.here hx (hb hby ds2_12) rfl ?_
        exact k)
    obtain ⟨v4, h4, Q4, K4, z4, w4⟩ := w3.callS hx (y := (⟨"java/util/Arrays", "copyOfRangeByte", "([BII)[B"⟩ : MethodName)) (W := 0) (hw _ (List.mem_of_getElem? (i := 113) rfl)) (hw _ (List.mem_of_getElem? (i := 114) rfl)) (hw _ (List.mem_of_getElem? (i := 111) rfl)) (hw _ (List.mem_of_getElem? (i := 115) rfl)) (by decide) ((rms1 l Z a0 hw t kb cs b n h0 n0 (by omega) V0 hbn ln hcap).pay w3.hZ (hw _ (List.mem_of_getElem? (i := 115) rfl)) (hw _ (List.mem_of_getElem? (i := 111) rfl)) (by decide) (by decide)) rfl (by rw [hml]; rfl) [] (lenOf pd_6 rfl) rfl (by show 2 * 0 + _ ≤ _; exact Nat.le_of_eq rfl) (hb hby ds2_13) (by decide) (by decide) (fun _ q => nomatch q) (fun rv => (mkF m 16 #[.val (.ref t), .val (.int (Int32.ofNat b)), .val (.int (Int32.ofNat (b + n)))] (rv.toList ++ []))) (fun _ => rfl)
    obtain ⟨r4, k4, rfl, gr4, V4⟩ := Q4
    have K5 : Keep h0 h4 [] := K0.trans K4 (fun _ q => nomatch q)
    have lt_r4 := arlt V4
    exact w4.endN (v := some (.ref r4)) (Q := (fun v h => ∃ (r : Nat) (k : ClassId), v = some (.ref r) ∧ h0.size ≤ r ∧ Arv Z h r k .byte (Int32.ofNat n) (own_slb cs b n) (.int (0 : Int32)))) (wr := []) (h0 := h0) (fun h => by rw [Bd.returns] at h; cases h) Bd.notSynchronized (fun X hr => X.areturnOut hx rfl Bd.returns rfl (hb hby ds2_16) hr) (by decide) (by decide) ⟨r4, k4, rfl, by omega, V4⟩ K5
  · have w6 := w1.pure (mkF m 13 #[.val (.ref t), .val (.int (Int32.ofNat b)), .val (.int (Int32.ofNat (b + n)))] [(.int (Int32.ofNat (b + n))), (.int (Int32.ofNat b)), (.ref t)]) (fun X eT hZ hown k => by
        show Steps _ _ _ (State.setTop _ (mkF m 1 #[.val (.ref t), .val (.int (Int32.ofNat b)), .val (.int (Int32.ofNat (b + n)))] [(.int (Int32.ofNat b))])) _
        refine S.ifYes X.here hx 10 (hb hby ds2_1) ((if0 _ _).trans (feq hc2).2) (by decide) (by decide) ?_
        refine S.aloadN X.here hx (hb hby ds2_10) rfl rfl ?_
        refine S.iloadN X.here hx (hb hby ds2_11) rfl ?_
        refine S.iloadN X.here hx (hb hby ds2_12) rfl ?_
        exact k)
    obtain ⟨v7, h7, Q7, K7, z7, w7⟩ := w6.callS hx (y := (⟨"java/util/Arrays", "copyOfRangeByte", "([BII)[B"⟩ : MethodName)) (W := 0) (hw _ (List.mem_of_getElem? (i := 113) rfl)) (hw _ (List.mem_of_getElem? (i := 114) rfl)) (hw _ (List.mem_of_getElem? (i := 111) rfl)) (hw _ (List.mem_of_getElem? (i := 115) rfl)) (by decide) ((rms1 l Z a0 hw t kb cs b n h0 n0 (by omega) V0 hbn ln hcap).pay w6.hZ (hw _ (List.mem_of_getElem? (i := 115) rfl)) (hw _ (List.mem_of_getElem? (i := 111) rfl)) (by decide) (by decide)) rfl (by rw [hml]; rfl) [] (lenOf pd_6 rfl) rfl (by show 2 * 0 + _ ≤ _; exact Nat.le_of_eq rfl) (hb hby ds2_13) (by decide) (by decide) (fun _ q => nomatch q) (fun rv => (mkF m 16 #[.val (.ref t), .val (.int (Int32.ofNat b)), .val (.int (Int32.ofNat (b + n)))] (rv.toList ++ []))) (fun _ => rfl)
    obtain ⟨r7, k7, rfl, gr7, V7⟩ := Q7
    have K8 : Keep h0 h7 [] := K0.trans K7 (fun _ q => nomatch q)
    have lt_r7 := arlt V7
    exact w7.endN (v := some (.ref r7)) (Q := (fun v h => ∃ (r : Nat) (k : ClassId), v = some (.ref r) ∧ h0.size ≤ r ∧ Arv Z h r k .byte (Int32.ofNat n) (own_slb cs b n) (.int (0 : Int32)))) (wr := []) (h0 := h0) (fun h => by rw [Bd.returns] at h; cases h) Bd.notSynchronized (fun X hr => X.areturnOut hx rfl Bd.returns rfl (hb hby ds2_16) hr) (by decide) (by decide) ⟨r7, k7, rfl, by omega, V7⟩ K8
theorem pd_7 : parseMethodDescriptor "([BB)V" = some ⟨[(.array .byte), .byte], none⟩ := by decide +kernel
theorem ds3_0 : decode jdk_43_method_47_code 0 = .ok (.iload_n 2, 1) := by decide +kernel
theorem ds3_1 : decode jdk_43_method_47_code 1 = .ok (.ifCond .ne 6, 3) := by decide +kernel
theorem ds3_7 : decode jdk_43_method_47_code 7 = .ok (.new 1, 3) := by decide +kernel
theorem ds3_10 : decode jdk_43_method_47_code 10 = .ok (.dup, 1) := by decide +kernel
theorem ds3_11 : decode jdk_43_method_47_code 11 = .ok (.aload_n 0, 1) := by decide +kernel
theorem ds3_12 : decode jdk_43_method_47_code 12 = .ok (.iload_n 1, 1) := by decide +kernel
theorem ds3_13 : decode jdk_43_method_47_code 13 = .ok (.iload_n 1, 1) := by decide +kernel
theorem ds3_14 : decode jdk_43_method_47_code 14 = .ok (.iload_n 2, 1) := by decide +kernel
theorem ds3_15 : decode jdk_43_method_47_code 15 = .ok (.iadd, 1) := by decide +kernel
theorem ds3_16 : decode jdk_43_method_47_code 16 = .ok (.invokestatic 232, 3) := by decide +kernel
theorem ds3_19 : decode jdk_43_method_47_code 19 = .ok (.iconst 0, 1) := by decide +kernel
theorem ds3_20 : decode jdk_43_method_47_code 20 = .ok (.invokespecial 112, 3) := by decide +kernel
theorem ds3_23 : decode jdk_43_method_47_code 23 = .ok (.areturn, 1) := by decide +kernel
theorem efs3 (m : MethodId) (x0 : Nat) (x1 : Int32) (x2 : Int32) : entryFrame m #[(.ref x0), (.int x1), (.int x2)] 3 = mkF m 0 #[.val (.ref x0), .val (.int x1), .val (.int x2)] [] := by first | (simp [entryFrame, mkF, argsToLocals, Value.category, maxLocals]; done) | rfl
theorem pn_10 : plainFor (⟨"java/lang/StringLatin1", "newString", "([BII)Ljava/lang/String;"⟩ : MethodName) = true := by first | decide +kernel | (apply plainFor_of_name; simp [plainName, overriddenIn]; done)
set_option maxRecDepth 65536 in
set_option maxHeartbeats 40000000 in
theorem rms3 (l : Launch) (Z : State) (a0 : Array Value) (hw : ∀ d ∈ tables_1, d.before a0 Z = true) (t : Nat) (kb : ClassId) (cs : List Int32) (b n : Nat) (h0 : Heap) (n0 : Nat) (Z0 : n0 ≤ h0.size) (X0 : Old Z n0 h0) (V0 : Arv Z h0 t kb .byte (Int32.ofNat cs.length) ((cs.map (fun c => c.toInt8.toInt32)).map Value.int) (.int (0 : Int32))) (hbn : b + n ≤ cs.length) (ln : cs.length ≤ 4000) (hcap : n ≤ 8) (hne : ¬ (b = 0 ∧ n = cs.length)) (hn0 : n ≠ 0) (rg : ∀ c ∈ cs, ¬ c < 0 ∧ ¬ (255 : Int32) < c) :
    NMet l Z (⟨"java/lang/StringLatin1", "newString", "([BII)Ljava/lang/String;"⟩ : MethodName) jdk_43_method_47_code 3 (some (.object "java/lang/String")) [] ({ frames := 3, cells := 2, slots := 12, locals := 59 } : Room) [(.ref t), (.int (Int32.ofNat b)), (.int (Int32.ofNat n))] h0 n0 [] (fun v h => ∃ y, v = some (.ref y) ∧ n0 ≤ y ∧ Str Z h y (own_sl cs b n) h.size) := by
  refine MetFree.of_bodySF pn_10 hisR ?_
  intro p e s m args below meth c s₁ Bd hml0 hP hK
  obtain ⟨rfl, hZ, hh⟩ := hP
  have hx := Bd.exec
  have hby := Bd.bytes
  have hml : c.maxLocals = 3 := hml0
  have hnm := (name_of_methodNamed Bd.named Bd.method).1
  have w0 := Wk.start (a0 := a0) (EL := []) (n0 := n0) (nw := true) Bd hZ hh EW.nil chv0 (efs3 m t (Int32.ofNat b) (Int32.ofNat n)) ({ frames := 3, cells := 2, slots := 12, locals := 59 } : Room) rfl
  have K0 : Keep h0 h0 [] := Keep.refl _ _
  have lt_V0 := arlt V0
  have w1 := w0.pure (mkF m 7 #[.val (.ref t), .val (.int (Int32.ofNat b)), .val (.int (Int32.ofNat n))] []) (fun X eT hZ hown k => by
      show Steps _ _ _ (State.setTop _ (mkF m 0 #[.val (.ref t), .val (.int (Int32.ofNat b)), .val (.int (Int32.ofNat n))] [])) _
      refine S.iloadN X.here hx (hb hby ds3_0) rfl ?_
      refine S.ifYes X.here hx 7 (hb hby ds3_1) ((if0 _ _).trans (feq (fun q => hn0 ((i_eq (by omega) (by omega)).mp (show Int32.ofNat n = Int32.ofNat 0 from q)))).2) (by decide) (by decide) ?_
      exact k)
  obtain ⟨b2, h2, g2, E2, l2, A2, D2, y2, w2⟩ := w1.newO hx (hw _ (List.mem_of_getElem? (i := 108) rfl)) (hw _ (List.mem_of_getElem? (i := 2) rfl)) (hw _ (List.mem_of_getElem? (i := 1) rfl)) rfl (hb hby ds3_7) (by decide) (by decide) (fun xq => (mkF m 10 #[.val (.ref t), .val (.int (Int32.ofNat b)), .val (.int (Int32.ofNat n))] (.ref xq :: []))) (fun _ => rfl)
  have z2 := E2.1
  have K3 : Keep h0 h2 [] := K0.ext E2
  have D2_4 : Fld Z h2 b2 "java/lang/String" "value" "[B" .null := D2 (Or.inr (hw _ (List.mem_of_getElem? (i := 4) rfl))) (ty := (.array .byte)) (by decide)
  have D2_5 : Fld Z h2 b2 "java/lang/String" "coder" "B" (.int (0 : Int32)) := D2 (Or.inr (hw _ (List.mem_of_getElem? (i := 5) rfl))) (ty := .byte) (by decide)
  have w4 := w2.pure (mkF m 16 #[.val (.ref t), .val (.int (Int32.ofNat b)), .val (.int (Int32.ofNat n))] [(.int ((Int32.ofNat b) + (Int32.ofNat n))), (.int (Int32.ofNat b)), (.ref t), (.ref b2), (.ref b2)]) (fun X eT hZ hown k => by
      show Steps _ _ _ (State.setTop _ (mkF m 10 #[.val (.ref t), .val (.int (Int32.ofNat b)), .val (.int (Int32.ofNat n))] [(.ref b2)])) _
      refine S.dup X.here hx (hb hby ds3_10) rfl ?_
      refine S.aloadN X.here hx (hb hby ds3_11) rfl rfl ?_
      refine S.iloadN X.here hx (hb hby ds3_12) rfl ?_
      refine S.iloadN X.here hx (hb hby ds3_13) rfl ?_
      refine S.iloadN X.here hx (hb hby ds3_14) rfl ?_
      refine S.iadd X.here hx (hb hby ds3_15) ?_
      exact k)
  have w5 := w4
  rw [i_add] at w5
  have F6 := V0.ext E2
  obtain ⟨v7, h7, Q7, K7, z7, w7⟩ := w5.callS hx (y := (⟨"java/util/Arrays", "copyOfRange", "([BII)[B"⟩ : MethodName)) (W := 2) (hw _ (List.mem_of_getElem? (i := 109) rfl)) (hw _ (List.mem_of_getElem? (i := 110) rfl)) (hw _ (List.mem_of_getElem? (i := 111) rfl)) (hw _ (List.mem_of_getElem? (i := 112) rfl)) (by decide) ((rms2 l Z a0 hw t kb cs b n h2 n0 (by omega) F6 hbn ln hcap hne).pay w5.hZ (hw _ (List.mem_of_getElem? (i := 112) rfl)) (hw _ (List.mem_of_getElem? (i := 111) rfl)) (by decide) (by decide)) rfl (by rw [hml]; rfl) [(.ref b2), (.ref b2)] (lenOf pd_6 rfl) rfl (by show 2 * 0 + _ ≤ _; exact Nat.le_of_eq rfl) (hb hby ds3_16) (by decide) (by decide) (fun _ q => nomatch q) (fun rv => (mkF m 19 #[.val (.ref t), .val (.int (Int32.ofNat b)), .val (.int (Int32.ofNat n))] (rv.toList ++ [(.ref b2), (.ref b2)]))) (fun _ => rfl)
  obtain ⟨r7, k7, rfl, gr7, V7⟩ := Q7
  have K8 : Keep h0 h7 [] := K3.trans K7 (fun _ q => nomatch q)
  have lt_r7 := arlt V7
  have w9 := w7.pure (mkF m 20 #[.val (.ref t), .val (.int (Int32.ofNat b)), .val (.int (Int32.ofNat n))] [(.int (0 : Int32)), (.ref r7), (.ref b2), (.ref b2)]) (fun X eT hZ hown k => by
      show Steps _ _ _ (State.setTop _ (mkF m 19 #[.val (.ref t), .val (.int (Int32.ofNat b)), .val (.int (Int32.ofNat n))] [(.ref r7), (.ref b2), (.ref b2)])) _
      refine S.iconst X.here hx (0 : Int32) (hb hby ds3_19) rfl ?_
      exact k)
  have F10 := A2.keep K7
  have F11 := D2_4.keep K7 nin0
  have F12 := D2_5.keep K7 nin0
  obtain ⟨v13, h13, Q13, K13, z13, w13⟩ := w9.callI hx (y := (⟨"java/lang/String", "<init>", "([BB)V"⟩ : MethodName)) (W := 1) rfl (hw _ (List.mem_of_getElem? (i := 124) rfl)) (hw _ (List.mem_of_getElem? (i := 125) rfl)) (hw _ (List.mem_of_getElem? (i := 126) rfl)) (by decide) ((rmbb l Z a0 hw b2 r7 h7 n0 (by omega) (by omega) F10 F11 F12).pay w9.hZ (hw _ (List.mem_of_getElem? (i := 126) rfl)) (hw _ (List.mem_of_getElem? (i := 1) rfl)) (by decide) (by decide)) rfl (by rw [hml]; rfl) [(.ref b2)] (lenOf pd_7 rfl) rfl (by show 2 * 0 + _ ≤ _; exact Nat.le_of_eq rfl) (hb hby ds3_20) (by decide) (by decide) (fun _ _ => safe0) (fun rv => (mkF m 23 #[.val (.ref t), .val (.int (Int32.ofNat b)), .val (.int (Int32.ofNat n))] (rv.toList ++ [(.ref b2)]))) (fun _ => rfl)
  obtain ⟨rfl, E13x, G13v, G13c⟩ := Q13
  have K14 : Keep h0 h13 [] := K8.trans K13 (allS (Or.inr (by omega)) (fun _ q => nomatch q))
  have F15 := V7.keep K13 (ninS (nne (by omega)) nin0)
  exact w13.endN (v := some (.ref b2)) (Q := (fun v h => ∃ y, v = some (.ref y) ∧ n0 ≤ y ∧ Str Z h y (own_sl cs b n) h.size)) (wr := []) (h0 := h0) (fun h => by rw [Bd.returns] at h; cases h) Bd.notSynchronized (fun X hr => X.areturnOut hx rfl Bd.returns rfl (hb hby ds3_23) hr) (by decide) (by decide) ⟨b2, rfl, by omega, Str.of E13x G13v G13c F15 (by rw [own_sl_len hbn]) rfl (own_sl_rng rg) (by rw [own_sl_len hbn]; omega) (exlt E13x) (arlt F15)⟩ K14
theorem ds4_0 : decode jdk_41_method_12_code 0 = .ok (.iload_n 0, 1) := by decide +kernel
theorem ds4_1 : decode jdk_41_method_12_code 1 = .ok (.ifCond .lt 13, 3) := by decide +kernel
theorem ds4_4 : decode jdk_41_method_12_code 4 = .ok (.iload_n 0, 1) := by decide +kernel
theorem ds4_5 : decode jdk_41_method_12_code 5 = .ok (.iload_n 1, 1) := by decide +kernel
theorem ds4_6 : decode jdk_41_method_12_code 6 = .ok (.if_icmp .gt 8, 3) := by decide +kernel
theorem ds4_9 : decode jdk_41_method_12_code 9 = .ok (.iload_n 1, 1) := by decide +kernel
theorem ds4_10 : decode jdk_41_method_12_code 10 = .ok (.iload_n 2, 1) := by decide +kernel
theorem ds4_11 : decode jdk_41_method_12_code 11 = .ok (.if_icmp .le 11, 3) := by decide +kernel
theorem ds4_22 : decode jdk_41_method_12_code 22 = .ok (.iload_n 0, 1) := by decide +kernel
theorem ds4_23 : decode jdk_41_method_12_code 23 = .ok (.ireturn, 1) := by decide +kernel
theorem efs4 (m : MethodId) (x0 : Int32) (x1 : Int32) (x2 : Int32) (x3 : Value) (q3 : x3.isRef = true) : entryFrame m #[(.int x0), (.int x1), (.int x2), x3] 4 = mkF m 0 #[.val (.int x0), .val (.int x1), .val (.int x2), .val x3] [] := by rcases ref_cases q3 with rfl | ⟨_, rfl⟩ <;> first | (simp [entryFrame, mkF, argsToLocals, Value.category, maxLocals]; done) | rfl
theorem pn_11 : plainFor (⟨"jdk/internal/util/Preconditions", "checkFromToIndex", "(IIILjava/util/function/BiFunction;)I"⟩ : MethodName) = true := by first | decide +kernel | (apply plainFor_of_name; simp [plainName, overriddenIn]; done)
set_option maxRecDepth 65536 in
set_option maxHeartbeats 40000000 in
theorem rms4 (l : Launch) (Z : State) (a0 : Array Value) (hw : ∀ d ∈ tables_1, d.before a0 Z = true) (p0 p1 p2 : Int32) (u : Value) (qu : u.isRef = true) (h0 : Heap) (n0 : Nat) (Z0 : n0 ≤ h0.size) (q0 : ¬ p0 < (0 : Int32)) (q1 : ¬ p1 < p0) (q2 : ¬ p2 < p1) :
    NMet l Z (⟨"jdk/internal/util/Preconditions", "checkFromToIndex", "(IIILjava/util/function/BiFunction;)I"⟩ : MethodName) jdk_41_method_12_code 4 (some .int) [] ({ frames := 0, cells := 0, slots := 0, locals := 0 } : Room) [(.int p0), (.int p1), (.int p2), u] h0 n0 [] (fun v h => v = some (.int p0) ∧ h0 = h) := by
  refine MetFree.of_bodySF pn_11 hisR ?_
  intro p e s m args below meth c s₁ Bd hml0 hP hK
  obtain ⟨rfl, hZ, hh⟩ := hP
  have hx := Bd.exec
  have hby := Bd.bytes
  have hml : c.maxLocals = 4 := hml0
  have hnm := (name_of_methodNamed Bd.named Bd.method).1
  have w0 := Wk.start (a0 := a0) (EL := []) (n0 := n0) (nw := true) Bd hZ hh EW.nil chv0 (efs4 m p0 p1 p2 u qu) ({ frames := 0, cells := 0, slots := 0, locals := 0 } : Room) rfl
  have K0 : Keep h0 h0 [] := Keep.refl _ _
  have w1 := w0.pure (mkF m 23 #[.val (.int p0), .val (.int p1), .val (.int p2), .val u] [(.int p0)]) (fun X eT hZ hown k => by
      show Steps _ _ _ (State.setTop _ (mkF m 0 #[.val (.int p0), .val (.int p1), .val (.int p2), .val u] [])) _
      refine S.iloadN X.here hx (hb hby ds4_0) rfl ?_
      refine S.ifNo X.here hx (hb hby ds4_1) ((if0 _ _).trans (flt q0).1) ?_
      refine S.iloadN X.here hx (hb hby ds4_4) rfl ?_
      refine S.iloadN X.here hx (hb hby ds4_5) rfl ?_
      refine S.icmpNo X.here hx (hb hby ds4_6) (flt q1).2.2.1 ?_
      refine S.iloadN X.here hx (hb hby ds4_9) rfl ?_
      refine S.iloadN X.here hx (hb hby ds4_10) rfl ?_
      refine S.icmpYes X.here hx 22 (hb hby ds4_11) (flt q2).2.2.2 (by decide) (by decide) ?_
      refine S.iloadN X.here hx (hb hby ds4_22) rfl ?_
      exact k)
  exact w1.endN (v := some (.int p0)) (Q := (fun v h => v = some (.int p0) ∧ h0 = h)) (wr := []) (h0 := h0) (fun h => by rw [Bd.returns] at h; cases h) Bd.notSynchronized (fun X hr => retI X hx Bd.returns (hb hby ds4_23) hr) (by decide) (by decide) ⟨rfl, rfl⟩ K0
theorem pd_8 : parseMethodDescriptor "(IIILjava/util/function/BiFunction;)I" = some ⟨[.int, .int, .int, (.object "java/util/function/BiFunction")], some .int⟩ := by decide +kernel
theorem ds5_0 : decode jdk_42_method_158_code 0 = .ok (.iload_n 0, 1) := by decide +kernel
theorem ds5_1 : decode jdk_42_method_158_code 1 = .ok (.iload_n 1, 1) := by decide +kernel
theorem ds5_2 : decode jdk_42_method_158_code 2 = .ok (.iload_n 2, 1) := by decide +kernel
theorem ds5_3 : decode jdk_42_method_158_code 3 = .ok (.getstatic 1053, 3) := by decide +kernel
theorem ds5_6 : decode jdk_42_method_158_code 6 = .ok (.invokestatic 1062, 3) := by decide +kernel
theorem ds5_9 : decode jdk_42_method_158_code 9 = .ok (.pop, 1) := by decide +kernel
theorem ds5_10 : decode jdk_42_method_158_code 10 = .ok (.return_, 1) := by decide +kernel
theorem efs5 (m : MethodId) (x0 : Int32) (x1 : Int32) (x2 : Int32) : entryFrame m #[(.int x0), (.int x1), (.int x2)] 3 = mkF m 0 #[.val (.int x0), .val (.int x1), .val (.int x2)] [] := by first | (simp [entryFrame, mkF, argsToLocals, Value.category, maxLocals]; done) | rfl
theorem pn_12 : plainFor (⟨"java/lang/String", "checkBoundsBeginEnd", "(III)V"⟩ : MethodName) = true := by first | decide +kernel | (apply plainFor_of_name; simp [plainName, overriddenIn]; done)
set_option maxRecDepth 65536 in
set_option maxHeartbeats 40000000 in
theorem rms5 (l : Launch) (Z : State) (a0 : Array Value) (hw : ∀ d ∈ tables_1, d.before a0 Z = true) (p0 p1 p2 : Int32) (h0 : Heap) (n0 : Nat) (Z0 : n0 ≤ h0.size) (hG : SetsOk Z) (X0 : Old Z n0 h0) (q0 : ¬ p0 < (0 : Int32)) (q1 : ¬ p1 < p0) (q2 : ¬ p2 < p1) :
    NMet l Z (⟨"java/lang/String", "checkBoundsBeginEnd", "(III)V"⟩ : MethodName) jdk_42_method_158_code 3 none [] ({ frames := 1, cells := 0, slots := 0, locals := 15 } : Room) [(.int p0), (.int p1), (.int p2)] h0 n0 [] (fun v h => v = none ∧ h0 = h) := by
  refine MetFree.of_bodySF pn_12 hisR ?_
  intro p e s m args below meth c s₁ Bd hml0 hP hK
  obtain ⟨rfl, hZ, hh⟩ := hP
  obtain ⟨G1, G3, S1, P1, S3, P3⟩ := hG
  have hx := Bd.exec
  have hby := Bd.bytes
  have hml : c.maxLocals = 3 := hml0
  have hnm := (name_of_methodNamed Bd.named Bd.method).1
  have w0 := Wk.start (a0 := a0) (EL := []) (n0 := n0) (nw := true) Bd hZ hh EW.nil chv0 (efs5 m p0 p1 p2) ({ frames := 1, cells := 0, slots := 0, locals := 15 } : Room) rfl
  have K0 : Keep h0 h0 [] := Keep.refl _ _
  have w1 := w0.pure (mkF m 3 #[.val (.int p0), .val (.int p1), .val (.int p2)] [(.int p2), (.int p1), (.int p0)]) (fun X eT hZ hown k => by
      show Steps _ _ _ (State.setTop _ (mkF m 0 #[.val (.int p0), .val (.int p1), .val (.int p2)] [])) _
      refine S.iloadN X.here hx (hb hby ds5_0) rfl ?_
      refine S.iloadN X.here hx (hb hby ds5_1) rfl ?_
      refine S.iloadN X.here hx (hb hby ds5_2) rfl ?_
      exact k)
  have w2 := w1.same (mkF m 6 #[.val (.int p0), .val (.int p1), .val (.int p2)] [G3, (.int p2), (.int p1), (.int p0)]) (fun X eT hZ hown => getS (host := "") X hx hZ hown (hw _ (List.mem_of_getElem? (i := 100) rfl)) Via.refl eT (S3.ext X0.2) (g := (mkF m 3 #[.val (.int p0), .val (.int p1), .val (.int p2)] [(.int p2), (.int p1), (.int p0)])) rfl (hb hby ds5_3))
  obtain ⟨v3, h3, Q3, K3, z3, w3⟩ := w2.callS hx (y := (⟨"jdk/internal/util/Preconditions", "checkFromToIndex", "(IIILjava/util/function/BiFunction;)I"⟩ : MethodName)) (W := 0) (hw _ (List.mem_of_getElem? (i := 102) rfl)) (hw _ (List.mem_of_getElem? (i := 103) rfl)) (hw _ (List.mem_of_getElem? (i := 101) rfl)) (hw _ (List.mem_of_getElem? (i := 104) rfl)) (by decide) ((rms4 l Z a0 hw p0 p1 p2 G3 P3 h0 n0 (by omega) q0 q1 q2).pay w2.hZ (hw _ (List.mem_of_getElem? (i := 104) rfl)) (hw _ (List.mem_of_getElem? (i := 101) rfl)) (by decide) (by decide)) rfl (by rw [hml]; rfl) [] (lenOf pd_8 rfl) rfl (by show 2 * 0 + _ ≤ _; exact Nat.le_of_eq rfl) (hb hby ds5_6) (by decide) (by decide) (fun _ q => nomatch q) (fun rv => (mkF m 9 #[.val (.int p0), .val (.int p1), .val (.int p2)] (rv.toList ++ []))) (fun _ => rfl)
  obtain ⟨rfl, rfl⟩ := Q3
  have w4 := w3.pure (mkF m 10 #[.val (.int p0), .val (.int p1), .val (.int p2)] []) (fun X eT hZ hown k => by
      show Steps _ _ _ (State.setTop _ (mkF m 9 #[.val (.int p0), .val (.int p1), .val (.int p2)] [(.int p0)])) _
      refine S.pop X.here hx (hb hby ds5_9) rfl ?_
      exact k)
  exact w4.endN (v := none) (Q := (fun v h => v = none ∧ h0 = h)) (wr := []) (h0 := h0) (fun _ => rfl) Bd.notSynchronized (fun X hr => X.returnOut hx Bd.returns (hb hby ds5_10) hr) (by decide) (by decide) ⟨rfl, rfl⟩ K0
theorem pd_9 : parseMethodDescriptor "(III)V" = some ⟨[.int, .int, .int], none⟩ := by decide +kernel
theorem pd_10 : parseMethodDescriptor "([BII)Ljava/lang/String;" = some ⟨[(.array .byte), .int, .int], some (.object "java/lang/String")⟩ := by decide +kernel
theorem ds6_0 : decode jdk_42_method_92_code 0 = .ok (.aload_n 0, 1) := by decide +kernel
theorem ds6_1 : decode jdk_42_method_92_code 1 = .ok (.invokevirtual 505, 3) := by decide +kernel
theorem ds6_4 : decode jdk_42_method_92_code 4 = .ok (.istore_n 3, 1) := by decide +kernel
theorem ds6_5 : decode jdk_42_method_92_code 5 = .ok (.iload_n 1, 1) := by decide +kernel
theorem ds6_6 : decode jdk_42_method_92_code 6 = .ok (.iload_n 2, 1) := by decide +kernel
theorem ds6_7 : decode jdk_42_method_92_code 7 = .ok (.iload_n 3, 1) := by decide +kernel
theorem ds6_8 : decode jdk_42_method_92_code 8 = .ok (.invokestatic 521, 3) := by decide +kernel
theorem ds6_11 : decode jdk_42_method_92_code 11 = .ok (.iload_n 1, 1) := by decide +kernel
theorem ds6_12 : decode jdk_42_method_92_code 12 = .ok (.ifCond .ne 10, 3) := by decide +kernel
theorem ds6_15 : decode jdk_42_method_92_code 15 = .ok (.iload_n 2, 1) := by decide +kernel
theorem ds6_16 : decode jdk_42_method_92_code 16 = .ok (.iload_n 3, 1) := by decide +kernel
theorem ds6_17 : decode jdk_42_method_92_code 17 = .ok (.if_icmp .ne 5, 3) := by decide +kernel
theorem ds6_22 : decode jdk_42_method_92_code 22 = .ok (.iload_n 2, 1) := by decide +kernel
theorem ds6_23 : decode jdk_42_method_92_code 23 = .ok (.iload_n 1, 1) := by decide +kernel
theorem ds6_24 : decode jdk_42_method_92_code 24 = .ok (.isub, 1) := by decide +kernel
theorem ds6_25 : decode jdk_42_method_92_code 25 = .ok (.istore 4, 2) := by decide +kernel
theorem ds6_27 : decode jdk_42_method_92_code 27 = .ok (.aload_n 0, 1) := by decide +kernel
theorem ds6_28 : decode jdk_42_method_92_code 28 = .ok (.invokevirtual 492, 3) := by decide +kernel
theorem ds6_31 : decode jdk_42_method_92_code 31 = .ok (.ifCond .eq 16, 3) := by decide +kernel
theorem ds6_34 : decode jdk_42_method_92_code 34 = .ok (.aload_n 0, 1) := by decide +kernel
theorem ds6_35 : decode jdk_42_method_92_code 35 = .ok (.getfield 9, 3) := by decide +kernel
theorem ds6_38 : decode jdk_42_method_92_code 38 = .ok (.iload_n 1, 1) := by decide +kernel
theorem ds6_39 : decode jdk_42_method_92_code 39 = .ok (.iload 4, 2) := by decide +kernel
theorem ds6_41 : decode jdk_42_method_92_code 41 = .ok (.invokestatic 685, 3) := by decide +kernel
theorem ds6_44 : decode jdk_42_method_92_code 44 = .ok (.goto 13, 3) := by decide +kernel
theorem ds6_57 : decode jdk_42_method_92_code 57 = .ok (.areturn, 1) := by decide +kernel
theorem efs6 (m : MethodId) (x0 : Nat) (x1 : Int32) (x2 : Int32) : entryFrame m #[(.ref x0), (.int x1), (.int x2)] 5 = mkF m 0 #[.val (.ref x0), .val (.int x1), .val (.int x2), .unset, .unset] [] := by first | (simp [entryFrame, mkF, argsToLocals, Value.category, maxLocals]; done) | rfl
theorem pn_13 : plainFor (⟨"java/lang/String", "substring", "(II)Ljava/lang/String;"⟩ : MethodName) = true := by first | decide +kernel | (apply plainFor_of_name; simp [plainName, overriddenIn]; done)
set_option maxRecDepth 65536 in
set_option maxHeartbeats 40000000 in
theorem rms6 (l : Launch) (Z : State) (a0 : Array Value) (hw : ∀ d ∈ tables_1, d.before a0 Z = true) (x : Nat) (cs : List Int32) (bd : Nat) (b n : Nat) (h0 : Heap) (n0 : Nat) (Z0 : n0 ≤ h0.size) (hG : SetsOk Z) (X0 : Old Z n0 h0) (Sx : Str Z h0 x cs bd) (hbn : b + n ≤ cs.length) (hcap : n ≤ 8) (hne : ¬ (b = 0 ∧ n = cs.length)) (hn0 : n ≠ 0) :
    NMet l Z (⟨"java/lang/String", "substring", "(II)Ljava/lang/String;"⟩ : MethodName) jdk_42_method_92_code 5 (some (.object "java/lang/String")) [] ({ frames := 4, cells := 2, slots := 12, locals := 73 } : Room) [(.ref x), (.int (Int32.ofNat b)), (.int (Int32.ofNat (b + n)))] h0 n0 [] (fun v h => ∃ y, v = some (.ref y) ∧ n0 ≤ y ∧ Str Z h y (own_sl cs b n) h.size) := by
  refine MetFree.of_bodySF pn_13 hisR ?_
  intro p e s m args below meth c s₁ Bd hml0 hP hK
  obtain ⟨rfl, hZ, hh⟩ := hP
  have hx := Bd.exec
  have hby := Bd.bytes
  have hml : c.maxLocals = 5 := hml0
  have hnm := (name_of_methodNamed Bd.named Bd.method).1
  have w0 := Wk.start (a0 := a0) (EL := []) (n0 := n0) (nw := true) Bd hZ hh EW.nil chv0 (efs6 m x (Int32.ofNat b) (Int32.ofNat (b + n))) ({ frames := 4, cells := 2, slots := 12, locals := 73 } : Room) rfl
  have K0 : Keep h0 h0 [] := Keep.refl _ _
  have Sx0 := Sx
  obtain ⟨t, kb, Ex, Fv, Fc, Kb, rg, ln, bx, bt⟩ := Sx
  have lt_x := exlt Ex
  have lt_t := arlt Kb
  have hq_lenW : ∀ d ∈ StrChars.Road.wordsLen, d.before a0 Z = true := fun d hd => hw d ((by decide +kernel : ∀ d ∈ StrChars.Road.wordsLen, d ∈ tables_1) d hd)
  have w1 := w0.pure (mkF m 1 #[.val (.ref x), .val (.int (Int32.ofNat b)), .val (.int (Int32.ofNat (b + n))), .unset, .unset] [(.ref x)]) (fun X eT hZ hown k => by
      show Steps _ _ _ (State.setTop _ (mkF m 0 #[.val (.ref x), .val (.int (Int32.ofNat b)), .val (.int (Int32.ofNat (b + n))), .unset, .unset] [])) _
      refine S.aloadN X.here hx (hb hby ds6_0) rfl rfl ?_
      exact k)
  obtain ⟨v2, h2, Q2, K2, z2, w2⟩ := w1.callV hx (C := "java/lang/String") (y := (⟨"java/lang/String", "length", "()I"⟩ : MethodName)) (z := (⟨"java/lang/String", "length", "()I"⟩ : MethodName)) (W := 0) (hw _ (List.mem_of_getElem? (i := 61) rfl)) (hw _ (List.mem_of_getElem? (i := 62) rfl)) (hw _ (List.mem_of_getElem? (i := 64) rfl)) (hw _ (List.mem_of_getElem? (i := 63) rfl)) (w1.nf (hw _ (List.mem_of_getElem? (i := 64) rfl))) (by decide) (payLen hG w1.hZ hq_lenW (hw _ (List.mem_of_getElem? (i := 2) rfl)) Sx0 X0 (by decide) (by decide)) Sx0.exa rfl (by rw [hml]; rfl) [] (lenOf pd_4 rfl) rfl (by show 2 * 0 + _ ≤ _; exact Nat.le_of_eq rfl) (hb hby ds6_1) (by decide) (by decide) (fun _ q => nomatch q) (fun rv => (mkF m 4 #[.val (.ref x), .val (.int (Int32.ofNat b)), .val (.int (Int32.ofNat (b + n))), .unset, .unset] (rv.toList ++ []))) (fun _ => rfl)
  obtain ⟨rfl, rfl⟩ := Q2
  have w3 := w2.pure (mkF m 8 #[.val (.ref x), .val (.int (Int32.ofNat b)), .val (.int (Int32.ofNat (b + n))), .val (.int (Int32.ofNat cs.length)), .unset] [(.int (Int32.ofNat cs.length)), (.int (Int32.ofNat (b + n))), (.int (Int32.ofNat b))]) (fun X eT hZ hown k => by
      show Steps _ _ _ (State.setTop _ (mkF m 4 #[.val (.ref x), .val (.int (Int32.ofNat b)), .val (.int (Int32.ofNat (b + n))), .unset, .unset] [(.int (Int32.ofNat cs.length))])) _
      refine S.istoreN X.here hx (hb hby ds6_4) #[.val (.ref x), .val (.int (Int32.ofNat b)), .val (.int (Int32.ofNat (b + n))), .val (.int (Int32.ofNat cs.length)), .unset] rfl ?_
      refine S.iloadN X.here hx (hb hby ds6_5) rfl ?_
      refine S.iloadN X.here hx (hb hby ds6_6) rfl ?_
      refine S.iloadN X.here hx (hb hby ds6_7) rfl ?_
      exact k)
  obtain ⟨v4, h4, Q4, K4, z4, w4⟩ := w3.callS hx (y := (⟨"java/lang/String", "checkBoundsBeginEnd", "(III)V"⟩ : MethodName)) (W := 0) (hw _ (List.mem_of_getElem? (i := 97) rfl)) (hw _ (List.mem_of_getElem? (i := 98) rfl)) (hw _ (List.mem_of_getElem? (i := 1) rfl)) (hw _ (List.mem_of_getElem? (i := 99) rfl)) (by decide) ((rms5 l Z a0 hw (Int32.ofNat b) (Int32.ofNat (b + n)) (Int32.ofNat cs.length) h0 n0 (by omega) hG X0 (i_nn (by omega)) (fun q => absurd ((i_lt (by omega) (by omega)).mp q) (by omega)) (fun q => absurd ((i_lt (by omega) (by omega)).mp q) (by omega))).pay w3.hZ (hw _ (List.mem_of_getElem? (i := 99) rfl)) (hw _ (List.mem_of_getElem? (i := 1) rfl)) (by decide) (by decide)) rfl (by rw [hml]; rfl) [] (lenOf pd_9 rfl) rfl (by show 2 * 0 + _ ≤ _; exact Nat.le_of_eq rfl) (hb hby ds6_8) (by decide) (by decide) (fun _ q => nomatch q) (fun rv => (mkF m 11 #[.val (.ref x), .val (.int (Int32.ofNat b)), .val (.int (Int32.ofNat (b + n))), .val (.int (Int32.ofNat cs.length)), .unset] (rv.toList ++ []))) (fun _ => rfl)
  obtain ⟨rfl, rfl⟩ := Q4
  have w5 := w4.pure (mkF m 12 #[.val (.ref x), .val (.int (Int32.ofNat b)), .val (.int (Int32.ofNat (b + n))), .val (.int (Int32.ofNat cs.length)), .unset] [(.int (Int32.ofNat b))]) (fun X eT hZ hown k => by
      show Steps _ _ _ (State.setTop _ (mkF m 11 #[.val (.ref x), .val (.int (Int32.ofNat b)), .val (.int (Int32.ofNat (b + n))), .val (.int (Int32.ofNat cs.length)), .unset] [])) _
      refine S.iloadN X.here hx (hb hby ds6_11) rfl ?_
      exact k)
  by_cases hc6 : (Int32.ofNat b) = (0 : Int32)
  · have w7 := w5.pure (mkF m 27 #[.val (.ref x), .val (.int (Int32.ofNat b)), .val (.int (Int32.ofNat (b + n))), .val (.int (Int32.ofNat cs.length)), .val (.int ((Int32.ofNat (b + n)) - (Int32.ofNat b)))] []) (fun X eT hZ hown k => by
        show Steps _ _ _ (State.setTop _ (mkF m 12 #[.val (.ref x), .val (.int (Int32.ofNat b)), .val (.int (Int32.ofNat (b + n))), .val (.int (Int32.ofNat cs.length)), .unset] [(.int (Int32.ofNat b))])) _
        refine S.ifNo X.here hx (hb hby ds6_12) ((if0 _ _).trans (teq hc6).2) ?_
        refine S.iloadN X.here hx (hb hby ds6_15) rfl ?_
        refine S.iloadN X.here hx (hb hby ds6_16) rfl ?_
        refine S.icmpYes X.here hx 22 (hb hby ds6_17) (feq (fun q => hne (own_whole hbn ln hc6 q))).2 (by decide) (by decide) ?_
        refine S.iloadN X.here hx (hb hby ds6_22) rfl ?_
        refine S.iloadN X.here hx (hb hby ds6_23) rfl ?_
        refine S.isub X.here hx (hb hby ds6_24) ?_
        refine S.istore X.here hx (hb hby ds6_25) #[.val (.ref x), .val (.int (Int32.ofNat b)), .val (.int (Int32.ofNat (b + n))), .val (.int (Int32.ofNat cs.length)), .val (.int ((Int32.ofNat (b + n)) - (Int32.ofNat b)))] rfl ?_
        exact k)
    have w8 := w7
    rw [i_sub] at w8
    have w9 := w8.pure (mkF m 28 #[.val (.ref x), .val (.int (Int32.ofNat b)), .val (.int (Int32.ofNat (b + n))), .val (.int (Int32.ofNat cs.length)), .val (.int (Int32.ofNat n))] [(.ref x)]) (fun X eT hZ hown k => by
        show Steps _ _ _ (State.setTop _ (mkF m 27 #[.val (.ref x), .val (.int (Int32.ofNat b)), .val (.int (Int32.ofNat (b + n))), .val (.int (Int32.ofNat cs.length)), .val (.int (Int32.ofNat n))] [])) _
        refine S.aloadN X.here hx (hb hby ds6_27) rfl rfl ?_
        exact k)
    obtain ⟨v10, h10, Q10, K10, z10, w10⟩ := w9.callV hx (C := "java/lang/String") (y := (⟨"java/lang/String", "isLatin1", "()Z"⟩ : MethodName)) (z := (⟨"java/lang/String", "isLatin1", "()Z"⟩ : MethodName)) (W := 0) (hw _ (List.mem_of_getElem? (i := 76) rfl)) (hw _ (List.mem_of_getElem? (i := 77) rfl)) (hw _ (List.mem_of_getElem? (i := 79) rfl)) (hw _ (List.mem_of_getElem? (i := 78) rfl)) (w9.nf (hw _ (List.mem_of_getElem? (i := 79) rfl))) (by decide) ((rmil l Z a0 hw x h0 n0 (by omega) hG X0 Fc).pay w9.hZ (hw _ (List.mem_of_getElem? (i := 80) rfl)) (hw _ (List.mem_of_getElem? (i := 1) rfl)) (by decide) (by decide)) Ex rfl (by rw [hml]; rfl) [] (lenOf pd_2 rfl) rfl (by show 2 * 0 + _ ≤ _; exact Nat.le_of_eq rfl) (hb hby ds6_28) (by decide) (by decide) (fun _ q => nomatch q) (fun rv => (mkF m 31 #[.val (.ref x), .val (.int (Int32.ofNat b)), .val (.int (Int32.ofNat (b + n))), .val (.int (Int32.ofNat cs.length)), .val (.int (Int32.ofNat n))] (rv.toList ++ []))) (fun _ => rfl)
    obtain ⟨rfl, rfl⟩ := Q10
    have w11 := w10.pure (mkF m 35 #[.val (.ref x), .val (.int (Int32.ofNat b)), .val (.int (Int32.ofNat (b + n))), .val (.int (Int32.ofNat cs.length)), .val (.int (Int32.ofNat n))] [(.ref x)]) (fun X eT hZ hown k => by
        show Steps _ _ _ (State.setTop _ (mkF m 31 #[.val (.ref x), .val (.int (Int32.ofNat b)), .val (.int (Int32.ofNat (b + n))), .val (.int (Int32.ofNat cs.length)), .val (.int (Int32.ofNat n))] [(.int (1 : Int32))])) _
        refine S.ifNo X.here hx (hb hby ds6_31) (by decide) ?_
        refine S.aloadN X.here hx (hb hby ds6_34) rfl rfl ?_
        exact k)
    have w12 := w11.same (mkF m 38 #[.val (.ref x), .val (.int (Int32.ofNat b)), .val (.int (Int32.ofNat (b + n))), .val (.int (Int32.ofNat cs.length)), .val (.int (Int32.ofNat n))] [(.ref t)]) (fun X eT hZ hown => getF X hx hZ hown (host := "") (Or.inl (hw _ (List.mem_of_getElem? (i := 50) rfl))) Via.refl eT Fv (g := (mkF m 35 #[.val (.ref x), .val (.int (Int32.ofNat b)), .val (.int (Int32.ofNat (b + n))), .val (.int (Int32.ofNat cs.length)), .val (.int (Int32.ofNat n))] [(.ref x)])) rfl rfl (hb hby ds6_35))
    have w13 := w12.pure (mkF m 41 #[.val (.ref x), .val (.int (Int32.ofNat b)), .val (.int (Int32.ofNat (b + n))), .val (.int (Int32.ofNat cs.length)), .val (.int (Int32.ofNat n))] [(.int (Int32.ofNat n)), (.int (Int32.ofNat b)), (.ref t)]) (fun X eT hZ hown k => by
        show Steps _ _ _ (State.setTop _ (mkF m 38 #[.val (.ref x), .val (.int (Int32.ofNat b)), .val (.int (Int32.ofNat (b + n))), .val (.int (Int32.ofNat cs.length)), .val (.int (Int32.ofNat n))] [(.ref t)])) _
        refine S.iloadN X.here hx (hb hby ds6_38) rfl ?_
        refine S.iload X.here hx (hb hby ds6_39) rfl ?_
        exact k)
    obtain ⟨v14, h14, Q14, K14, z14, w14⟩ := w13.callS hx (y := (⟨"java/lang/StringLatin1", "newString", "([BII)Ljava/lang/String;"⟩ : MethodName)) (W := 0) (hw _ (List.mem_of_getElem? (i := 105) rfl)) (hw _ (List.mem_of_getElem? (i := 106) rfl)) (hw _ (List.mem_of_getElem? (i := 54) rfl)) (hw _ (List.mem_of_getElem? (i := 107) rfl)) (by decide) ((rms3 l Z a0 hw t kb cs b n h0 n0 (by omega) X0 Kb hbn ln hcap hne hn0 rg).pay w13.hZ (hw _ (List.mem_of_getElem? (i := 107) rfl)) (hw _ (List.mem_of_getElem? (i := 54) rfl)) (by decide) (by decide)) rfl (by rw [hml]; rfl) [] (lenOf pd_10 rfl) rfl (by show 2 * 0 + _ ≤ _; exact Nat.le_of_eq rfl) (hb hby ds6_41) (by decide) (by decide) (fun _ q => nomatch q) (fun rv => (mkF m 44 #[.val (.ref x), .val (.int (Int32.ofNat b)), .val (.int (Int32.ofNat (b + n))), .val (.int (Int32.ofNat cs.length)), .val (.int (Int32.ofNat n))] (rv.toList ++ []))) (fun _ => rfl)
    obtain ⟨y14, rfl, gy14, S14⟩ := Q14
    have K15 : Keep h0 h14 [] := K0.trans K14 (fun _ q => nomatch q)
    have lt_y14 := S14.lt
    have w16 := w14.pure (mkF m 57 #[.val (.ref x), .val (.int (Int32.ofNat b)), .val (.int (Int32.ofNat (b + n))), .val (.int (Int32.ofNat cs.length)), .val (.int (Int32.ofNat n))] [(.ref y14)]) (fun X eT hZ hown k => by
        show Steps _ _ _ (State.setTop _ (mkF m 44 #[.val (.ref x), .val (.int (Int32.ofNat b)), .val (.int (Int32.ofNat (b + n))), .val (.int (Int32.ofNat cs.length)), .val (.int (Int32.ofNat n))] [(.ref y14)])) _
        refine S.goto X.here hx 57 (hb hby ds6_44) (by decide) (by decide) ?_
        exact k)
    exact w16.endN (v := some (.ref y14)) (Q := (fun v h => ∃ y, v = some (.ref y) ∧ n0 ≤ y ∧ Str Z h y (own_sl cs b n) h.size)) (wr := []) (h0 := h0) (fun h => by rw [Bd.returns] at h; cases h) Bd.notSynchronized (fun X hr => X.areturnOut hx rfl Bd.returns rfl (hb hby ds6_57) hr) (by decide) (by decide) ⟨y14, rfl, by omega, S14.more (by omega)⟩ K15
  · have w17 := w5.pure (mkF m 27 #[.val (.ref x), .val (.int (Int32.ofNat b)), .val (.int (Int32.ofNat (b + n))), .val (.int (Int32.ofNat cs.length)), .val (.int ((Int32.ofNat (b + n)) - (Int32.ofNat b)))] []) (fun X eT hZ hown k => by
        show Steps _ _ _ (State.setTop _ (mkF m 12 #[.val (.ref x), .val (.int (Int32.ofNat b)), .val (.int (Int32.ofNat (b + n))), .val (.int (Int32.ofNat cs.length)), .unset] [(.int (Int32.ofNat b))])) _
        refine S.ifYes X.here hx 22 (hb hby ds6_12) ((if0 _ _).trans (feq hc6).2) (by decide) (by decide) ?_
        refine S.iloadN X.here hx (hb hby ds6_22) rfl ?_
        refine S.iloadN X.here hx (hb hby ds6_23) rfl ?_
        refine S.isub X.here hx (hb hby ds6_24) ?_
        refine S.istore X.here hx (hb hby ds6_25) #[.val (.ref x), .val (.int (Int32.ofNat b)), .val (.int (Int32.ofNat (b + n))), .val (.int (Int32.ofNat cs.length)), .val (.int ((Int32.ofNat (b + n)) - (Int32.ofNat b)))] rfl ?_
        exact k)
    have w18 := w17
    rw [i_sub] at w18
    have w19 := w18.pure (mkF m 28 #[.val (.ref x), .val (.int (Int32.ofNat b)), .val (.int (Int32.ofNat (b + n))), .val (.int (Int32.ofNat cs.length)), .val (.int (Int32.ofNat n))] [(.ref x)]) (fun X eT hZ hown k => by
        show Steps _ _ _ (State.setTop _ (mkF m 27 #[.val (.ref x), .val (.int (Int32.ofNat b)), .val (.int (Int32.ofNat (b + n))), .val (.int (Int32.ofNat cs.length)), .val (.int (Int32.ofNat n))] [])) _
        refine S.aloadN X.here hx (hb hby ds6_27) rfl rfl ?_
        exact k)
    obtain ⟨v20, h20, Q20, K20, z20, w20⟩ := w19.callV hx (C := "java/lang/String") (y := (⟨"java/lang/String", "isLatin1", "()Z"⟩ : MethodName)) (z := (⟨"java/lang/String", "isLatin1", "()Z"⟩ : MethodName)) (W := 0) (hw _ (List.mem_of_getElem? (i := 76) rfl)) (hw _ (List.mem_of_getElem? (i := 77) rfl)) (hw _ (List.mem_of_getElem? (i := 79) rfl)) (hw _ (List.mem_of_getElem? (i := 78) rfl)) (w19.nf (hw _ (List.mem_of_getElem? (i := 79) rfl))) (by decide) ((rmil l Z a0 hw x h0 n0 (by omega) hG X0 Fc).pay w19.hZ (hw _ (List.mem_of_getElem? (i := 80) rfl)) (hw _ (List.mem_of_getElem? (i := 1) rfl)) (by decide) (by decide)) Ex rfl (by rw [hml]; rfl) [] (lenOf pd_2 rfl) rfl (by show 2 * 0 + _ ≤ _; exact Nat.le_of_eq rfl) (hb hby ds6_28) (by decide) (by decide) (fun _ q => nomatch q) (fun rv => (mkF m 31 #[.val (.ref x), .val (.int (Int32.ofNat b)), .val (.int (Int32.ofNat (b + n))), .val (.int (Int32.ofNat cs.length)), .val (.int (Int32.ofNat n))] (rv.toList ++ []))) (fun _ => rfl)
    obtain ⟨rfl, rfl⟩ := Q20
    have w21 := w20.pure (mkF m 35 #[.val (.ref x), .val (.int (Int32.ofNat b)), .val (.int (Int32.ofNat (b + n))), .val (.int (Int32.ofNat cs.length)), .val (.int (Int32.ofNat n))] [(.ref x)]) (fun X eT hZ hown k => by
        show Steps _ _ _ (State.setTop _ (mkF m 31 #[.val (.ref x), .val (.int (Int32.ofNat b)), .val (.int (Int32.ofNat (b + n))), .val (.int (Int32.ofNat cs.length)), .val (.int (Int32.ofNat n))] [(.int (1 : Int32))])) _
        refine S.ifNo X.here hx (hb hby ds6_31) (by decide) ?_
        refine S.aloadN X.here hx (hb hby ds6_34) rfl rfl ?_
        exact k)
    have w22 := w21.same (mkF m 38 #[.val (.ref x), .val (.int (Int32.ofNat b)), .val (.int (Int32.ofNat (b + n))), .val (.int (Int32.ofNat cs.length)), .val (.int (Int32.ofNat n))] [(.ref t)]) (fun X eT hZ hown => getF X hx hZ hown (host := "") (Or.inl (hw _ (List.mem_of_getElem? (i := 50) rfl))) Via.refl eT Fv (g := (mkF m 35 #[.val (.ref x), .val (.int (Int32.ofNat b)), .val (.int (Int32.ofNat (b + n))), .val (.int (Int32.ofNat cs.length)), .val (.int (Int32.ofNat n))] [(.ref x)])) rfl rfl (hb hby ds6_35))
    have w23 := w22.pure (mkF m 41 #[.val (.ref x), .val (.int (Int32.ofNat b)), .val (.int (Int32.ofNat (b + n))), .val (.int (Int32.ofNat cs.length)), .val (.int (Int32.ofNat n))] [(.int (Int32.ofNat n)), (.int (Int32.ofNat b)), (.ref t)]) (fun X eT hZ hown k => by
        show Steps _ _ _ (State.setTop _ (mkF m 38 #[.val (.ref x), .val (.int (Int32.ofNat b)), .val (.int (Int32.ofNat (b + n))), .val (.int (Int32.ofNat cs.length)), .val (.int (Int32.ofNat n))] [(.ref t)])) _
        refine S.iloadN X.here hx (hb hby ds6_38) rfl ?_
        refine S.iload X.here hx (hb hby ds6_39) rfl ?_
        exact k)
    obtain ⟨v24, h24, Q24, K24, z24, w24⟩ := w23.callS hx (y := (⟨"java/lang/StringLatin1", "newString", "([BII)Ljava/lang/String;"⟩ : MethodName)) (W := 0) (hw _ (List.mem_of_getElem? (i := 105) rfl)) (hw _ (List.mem_of_getElem? (i := 106) rfl)) (hw _ (List.mem_of_getElem? (i := 54) rfl)) (hw _ (List.mem_of_getElem? (i := 107) rfl)) (by decide) ((rms3 l Z a0 hw t kb cs b n h0 n0 (by omega) X0 Kb hbn ln hcap hne hn0 rg).pay w23.hZ (hw _ (List.mem_of_getElem? (i := 107) rfl)) (hw _ (List.mem_of_getElem? (i := 54) rfl)) (by decide) (by decide)) rfl (by rw [hml]; rfl) [] (lenOf pd_10 rfl) rfl (by show 2 * 0 + _ ≤ _; exact Nat.le_of_eq rfl) (hb hby ds6_41) (by decide) (by decide) (fun _ q => nomatch q) (fun rv => (mkF m 44 #[.val (.ref x), .val (.int (Int32.ofNat b)), .val (.int (Int32.ofNat (b + n))), .val (.int (Int32.ofNat cs.length)), .val (.int (Int32.ofNat n))] (rv.toList ++ []))) (fun _ => rfl)
    obtain ⟨y24, rfl, gy24, S24⟩ := Q24
    have K25 : Keep h0 h24 [] := K0.trans K24 (fun _ q => nomatch q)
    have lt_y24 := S24.lt
    have w26 := w24.pure (mkF m 57 #[.val (.ref x), .val (.int (Int32.ofNat b)), .val (.int (Int32.ofNat (b + n))), .val (.int (Int32.ofNat cs.length)), .val (.int (Int32.ofNat n))] [(.ref y24)]) (fun X eT hZ hown k => by
        show Steps _ _ _ (State.setTop _ (mkF m 44 #[.val (.ref x), .val (.int (Int32.ofNat b)), .val (.int (Int32.ofNat (b + n))), .val (.int (Int32.ofNat cs.length)), .val (.int (Int32.ofNat n))] [(.ref y24)])) _
        refine S.goto X.here hx 57 (hb hby ds6_44) (by decide) (by decide) ?_
        exact k)
    exact w26.endN (v := some (.ref y24)) (Q := (fun v h => ∃ y, v = some (.ref y) ∧ n0 ≤ y ∧ Str Z h y (own_sl cs b n) h.size)) (wr := []) (h0 := h0) (fun h => by rw [Bd.returns] at h; cases h) Bd.notSynchronized (fun X hr => X.areturnOut hx rfl Bd.returns rfl (hb hby ds6_57) hr) (by decide) (by decide) ⟨y24, rfl, by omega, S24.more (by omega)⟩ K25
def own_parent (cs : List Int32) : List Int32 := if own_lix cs 47 cs.length < 0 then [(47 : Int32)] else own_sl cs 0 (own_lix cs 47 cs.length).toNatClampNeg
theorem own_lix_nat (cs : List Int32) (ch : Int32) : ∀ n : Nat, own_lix cs ch n = (-1 : Int32) ∨ ∃ N, N < n ∧ own_lix cs ch n = Int32.ofNat (0 + N)
  | 0 => Or.inl rfl
  | n + 1 => by
    by_cases q : cs.getD n 0 = ch
    · exact Or.inr ⟨n, by omega, by rw [Nat.zero_add]; exact if_pos q⟩
    · rw [show own_lix cs ch (n + 1) = own_lix cs ch n from if_neg q]
      rcases own_lix_nat cs ch n with e | ⟨N, h, e⟩
      · exact Or.inl e
      · exact Or.inr ⟨N, by omega, e⟩
theorem own_lix_pos {cs : List Int32} {ch : Int32} {n : Nat} (q : ¬ own_lix cs ch n < (0 : Int32)) : ∃ N, N < n ∧ own_lix cs ch n = Int32.ofNat (0 + N) := by
  rcases own_lix_nat cs ch n with e | r
  · rw [e] at q; exact absurd (by decide) q
  · exact r
theorem own_l255 (x : Int64) : ¬ ((x &&& (255 : Int64)).toInt32) < 0 ∧ ¬ (255 : Int32) < ((x &&& (255 : Int64)).toInt32) := by
  have e : (x &&& (255 : Int64)).toBitVec.toNat ≤ 255 := by
    rw [Int64.toBitVec_and, BitVec.toNat_and]; exact Nat.and_le_right
  have e2 : (x &&& (255 : Int64)).toInt = ((x &&& (255 : Int64)).toBitVec.toNat : Int) := BitVec.toInt_eq_toNat_of_lt (by omega)
  have e3 := Int64.toInt_toInt32 (x &&& (255 : Int64))
  simp only [Int32.lt_iff_toInt_lt, show (0 : Int32).toInt = 0 from rfl, show (255 : Int32).toInt = 255 from rfl]
  rw [e3, Int.bmod_def]; omega
theorem own_and3 (n : Int32) : (n &&& (3 : Int32)) = 0 ∨ (n &&& (3 : Int32)) = 1 ∨ (n &&& (3 : Int32)) = 2 ∨ (n &&& (3 : Int32)) = 3 := by
  have q := c_and n (3 : Int32) (by decide)
  simp only [← Int32.toInt_inj, show (3 : Int32).toInt = 3 from rfl, show (2 : Int32).toInt = 2 from rfl, show (1 : Int32).toInt = 1 from rfl, show (0 : Int32).toInt = 0 from rfl] at q ⊢
  omega
theorem own_sh {n : Int32} : (¬ (n &&& (3 : Int32)) = 0 → (n &&& (3 : Int32)) < 2 → (n &&& (3 : Int32)) = 1) ∧ ((n &&& (3 : Int32)) < 2 → (n &&& (3 : Int32)) < 3) ∧ (¬ (n &&& (3 : Int32)) < 2 → ¬ (n &&& (3 : Int32)) = 1) ∧ (¬ (n &&& (3 : Int32)) < 2 → (n &&& (3 : Int32)) < 3 → (n &&& (3 : Int32)) = 2) ∧ (¬ (n &&& (3 : Int32)) < 3 → ¬ (n &&& (3 : Int32)) = 2) := by
  rcases own_and3 n with e | e | e | e <;> rw [e] <;> decide
def own_ch (p0 : Int64) (p1 : Int32) : Int32 := (if (((((p0.toUInt64 >>> (((8 : Int32) * p1) &&& 0x3f).toInt64.toUInt64).toInt64) &&& (255 : Int64)).toInt32) % (255 : Int32)) < (47 : Int32) then (nar .char ((((((p0.toUInt64 >>> (((8 : Int32) * p1) &&& 0x3f).toInt64.toUInt64).toInt64) &&& (255 : Int64)).toInt32) % (255 : Int32)).toUInt32.toUInt16.toUInt32.toInt32)) else (nar .char (((((((p0.toUInt64 >>> (((8 : Int32) * p1) &&& 0x3f).toInt64.toUInt64).toInt64) &&& (255 : Int64)).toInt32) % (255 : Int32)) + (1 : Int32)).toUInt32.toUInt16.toUInt32.toInt32)))
theorem dch_0 : decode method_2_code 0 = .ok (.lload_n 0, 1) := by decide +kernel
theorem dch_1 : decode method_2_code 1 = .ok (.bipush 8, 2) := by decide +kernel
theorem dch_3 : decode method_2_code 3 = .ok (.iload_n 2, 1) := by decide +kernel
theorem dch_4 : decode method_2_code 4 = .ok (.imul, 1) := by decide +kernel
theorem dch_5 : decode method_2_code 5 = .ok (.lushr, 1) := by decide +kernel
theorem dch_6 : decode method_2_code 6 = .ok (.ldc2_w 7, 3) := by decide +kernel
theorem dch_9 : decode method_2_code 9 = .ok (.land, 1) := by decide +kernel
theorem dch_10 : decode method_2_code 10 = .ok (.l2i, 1) := by decide +kernel
theorem dch_11 : decode method_2_code 11 = .ok (.sipush 255, 3) := by decide +kernel
theorem dch_14 : decode method_2_code 14 = .ok (.irem, 1) := by decide +kernel
theorem dch_15 : decode method_2_code 15 = .ok (.istore_n 3, 1) := by decide +kernel
theorem dch_16 : decode method_2_code 16 = .ok (.iload_n 3, 1) := by decide +kernel
theorem dch_17 : decode method_2_code 17 = .ok (.bipush 47, 2) := by decide +kernel
theorem dch_19 : decode method_2_code 19 = .ok (.if_icmp .lt 7, 3) := by decide +kernel
theorem dch_22 : decode method_2_code 22 = .ok (.iload_n 3, 1) := by decide +kernel
theorem dch_23 : decode method_2_code 23 = .ok (.iconst 1, 1) := by decide +kernel
theorem dch_24 : decode method_2_code 24 = .ok (.iadd, 1) := by decide +kernel
theorem dch_25 : decode method_2_code 25 = .ok (.istore_n 3, 1) := by decide +kernel
theorem dch_26 : decode method_2_code 26 = .ok (.iload_n 3, 1) := by decide +kernel
theorem dch_27 : decode method_2_code 27 = .ok (.i2c, 1) := by decide +kernel
theorem dch_28 : decode method_2_code 28 = .ok (.ireturn, 1) := by decide +kernel
theorem efch (m : MethodId) (x0 : Int64) (x1 : Int32) : entryFrame m #[(.long x0), (.int x1)] 4 = mkF m 0 #[.val (.long x0), .second, .val (.int x1), .unset] [] := by first | (simp [entryFrame, mkF, argsToLocals, Value.category, maxLocals]; done) | rfl
theorem pn_14 : plainFor (⟨"com/example/bylaw/bylaw/TreePathParentPinLaw", "ch", "(JI)C"⟩ : MethodName) = true := by first | decide +kernel | (apply plainFor_of_name; simp [plainName, overriddenIn]; done)
set_option maxRecDepth 65536 in
set_option maxHeartbeats 40000000 in
theorem rmch (l : Launch) (Z : State) (a0 : Array Value) (hw : ∀ d ∈ tables_1, d.before a0 Z = true) (p0 : Int64) (p1 : Int32) (h0 : Heap) (n0 : Nat) (Z0 : n0 ≤ h0.size)  :
    NMet l Z (⟨"com/example/bylaw/bylaw/TreePathParentPinLaw", "ch", "(JI)C"⟩ : MethodName) method_2_code 4 (some .char) [] ({ frames := 0, cells := 0, slots := 0, locals := 0 } : Room) [(.long p0), (.int p1)] h0 n0 [] (fun v h => v = some (.int (own_ch p0 p1)) ∧ h0 = h) := by
  refine MetFree.of_bodySF pn_14 hisR ?_
  intro p e s m args below meth c s₁ Bd hml0 hP hK
  obtain ⟨rfl, hZ, hh⟩ := hP
  have hx := Bd.exec
  have hby := Bd.bytes
  have hml : c.maxLocals = 4 := hml0
  have hnm := (name_of_methodNamed Bd.named Bd.method).1
  have w0 := Wk.start (a0 := a0) (EL := []) (n0 := n0) (nw := true) Bd hZ hh EW.nil chv0 (efch m p0 p1) ({ frames := 0, cells := 0, slots := 0, locals := 0 } : Room) rfl
  have K0 : Keep h0 h0 [] := Keep.refl _ _
  have w1 := w0.pure (mkF m 19 #[.val (.long p0), .second, .val (.int p1), .val (.int (((((p0.toUInt64 >>> (((8 : Int32) * p1) &&& 0x3f).toInt64.toUInt64).toInt64) &&& (255 : Int64)).toInt32) % (255 : Int32)))] [(.int (47 : Int32)), (.int (((((p0.toUInt64 >>> (((8 : Int32) * p1) &&& 0x3f).toInt64.toUInt64).toInt64) &&& (255 : Int64)).toInt32) % (255 : Int32)))]) (fun X eT hZ hown k => by
      show Steps _ _ _ (State.setTop _ (mkF m 0 #[.val (.long p0), .second, .val (.int p1), .unset] [])) _
      refine S.lloadN X.here hx (hb hby dch_0) rfl ?_
      refine S.bipush X.here hx (8 : Int32) (hb hby dch_1) rfl ?_
      refine S.iloadN X.here hx (hb hby dch_3) rfl ?_
      refine S.imul X.here hx (hb hby dch_4) ?_
      refine S.lushr X.here hx (hb hby dch_5) ?_
      refine X.ldc2J hx hown (mvT hZ (hw _ (List.mem_of_getElem? (i := 23) rfl))) rfl (hb hby dch_6) ?_
      show Steps _ _ _ (State.setTop _ (mkF m 9 #[.val (.long p0), .second, .val (.int p1), .unset] [(.long (255 : Int64)), (.long ((p0.toUInt64 >>> (((8 : Int32) * p1) &&& 0x3f).toInt64.toUInt64).toInt64))])) _
      refine S.land X.here hx (hb hby dch_9) ?_
      refine S.l2i X.here hx (hb hby dch_10) ?_
      refine S.sipush X.here hx (255 : Int32) (hb hby dch_11) rfl ?_
      refine iremM X hx rfl (hb hby dch_14) rfl (by decide) ?_
      show Steps _ _ _ (State.setTop _ (mkF m 15 #[.val (.long p0), .second, .val (.int p1), .unset] [(.int (((((p0.toUInt64 >>> (((8 : Int32) * p1) &&& 0x3f).toInt64.toUInt64).toInt64) &&& (255 : Int64)).toInt32) % (255 : Int32)))])) _
      refine S.istoreN X.here hx (hb hby dch_15) #[.val (.long p0), .second, .val (.int p1), .val (.int (((((p0.toUInt64 >>> (((8 : Int32) * p1) &&& 0x3f).toInt64.toUInt64).toInt64) &&& (255 : Int64)).toInt32) % (255 : Int32)))] rfl ?_
      refine S.iloadN X.here hx (hb hby dch_16) rfl ?_
      refine S.bipush X.here hx (47 : Int32) (hb hby dch_17) rfl ?_
      exact k)
  by_cases hc2 : (((((p0.toUInt64 >>> (((8 : Int32) * p1) &&& 0x3f).toInt64.toUInt64).toInt64) &&& (255 : Int64)).toInt32) % (255 : Int32)) < (47 : Int32)
  · have w3 := w1.pure (mkF m 28 #[.val (.long p0), .second, .val (.int p1), .val (.int (((((p0.toUInt64 >>> (((8 : Int32) * p1) &&& 0x3f).toInt64.toUInt64).toInt64) &&& (255 : Int64)).toInt32) % (255 : Int32)))] [(.int ((((((p0.toUInt64 >>> (((8 : Int32) * p1) &&& 0x3f).toInt64.toUInt64).toInt64) &&& (255 : Int64)).toInt32) % (255 : Int32)).toUInt32.toUInt16.toUInt32.toInt32))]) (fun X eT hZ hown k => by
        show Steps _ _ _ (State.setTop _ (mkF m 19 #[.val (.long p0), .second, .val (.int p1), .val (.int (((((p0.toUInt64 >>> (((8 : Int32) * p1) &&& 0x3f).toInt64.toUInt64).toInt64) &&& (255 : Int64)).toInt32) % (255 : Int32)))] [(.int (47 : Int32)), (.int (((((p0.toUInt64 >>> (((8 : Int32) * p1) &&& 0x3f).toInt64.toUInt64).toInt64) &&& (255 : Int64)).toInt32) % (255 : Int32)))])) _
        refine S.icmpYes X.here hx 26 (hb hby dch_19) (tlt hc2).1 (by decide) (by decide) ?_
        refine S.iloadN X.here hx (hb hby dch_26) rfl ?_
        refine S.i2c X.here hx (hb hby dch_27) ?_
        exact k)
    exact w3.endN (v := some (.int (nar .char ((((((p0.toUInt64 >>> (((8 : Int32) * p1) &&& 0x3f).toInt64.toUInt64).toInt64) &&& (255 : Int64)).toInt32) % (255 : Int32)).toUInt32.toUInt16.toUInt32.toInt32)))) (Q := (fun v h => v = some (.int (own_ch p0 p1)) ∧ h0 = h)) (wr := []) (h0 := h0) (fun h => by rw [Bd.returns] at h; cases h) Bd.notSynchronized (fun X hr => retN X hx (t := .char) Bd.returns (by simp) (hb hby dch_28) hr) (by decide) (by decide) ⟨by simp only [own_ch, if_pos hc2], rfl⟩ K0
  · have w4 := w1.pure (mkF m 28 #[.val (.long p0), .second, .val (.int p1), .val (.int ((((((p0.toUInt64 >>> (((8 : Int32) * p1) &&& 0x3f).toInt64.toUInt64).toInt64) &&& (255 : Int64)).toInt32) % (255 : Int32)) + (1 : Int32)))] [(.int (((((((p0.toUInt64 >>> (((8 : Int32) * p1) &&& 0x3f).toInt64.toUInt64).toInt64) &&& (255 : Int64)).toInt32) % (255 : Int32)) + (1 : Int32)).toUInt32.toUInt16.toUInt32.toInt32))]) (fun X eT hZ hown k => by
        show Steps _ _ _ (State.setTop _ (mkF m 19 #[.val (.long p0), .second, .val (.int p1), .val (.int (((((p0.toUInt64 >>> (((8 : Int32) * p1) &&& 0x3f).toInt64.toUInt64).toInt64) &&& (255 : Int64)).toInt32) % (255 : Int32)))] [(.int (47 : Int32)), (.int (((((p0.toUInt64 >>> (((8 : Int32) * p1) &&& 0x3f).toInt64.toUInt64).toInt64) &&& (255 : Int64)).toInt32) % (255 : Int32)))])) _
        refine S.icmpNo X.here hx (hb hby dch_19) (flt hc2).1 ?_
        refine S.iloadN X.here hx (hb hby dch_22) rfl ?_
        refine S.iconst X.here hx (1 : Int32) (hb hby dch_23) rfl ?_
        refine S.iadd X.here hx (hb hby dch_24) ?_
        refine S.istoreN X.here hx (hb hby dch_25) #[.val (.long p0), .second, .val (.int p1), .val (.int ((((((p0.toUInt64 >>> (((8 : Int32) * p1) &&& 0x3f).toInt64.toUInt64).toInt64) &&& (255 : Int64)).toInt32) % (255 : Int32)) + (1 : Int32)))] rfl ?_
        refine S.iloadN X.here hx (hb hby dch_26) rfl ?_
        refine S.i2c X.here hx (hb hby dch_27) ?_
        exact k)
    exact w4.endN (v := some (.int (nar .char (((((((p0.toUInt64 >>> (((8 : Int32) * p1) &&& 0x3f).toInt64.toUInt64).toInt64) &&& (255 : Int64)).toInt32) % (255 : Int32)) + (1 : Int32)).toUInt32.toUInt16.toUInt32.toInt32)))) (Q := (fun v h => v = some (.int (own_ch p0 p1)) ∧ h0 = h)) (wr := []) (h0 := h0) (fun h => by rw [Bd.returns] at h; cases h) Bd.notSynchronized (fun X hr => retN X hx (t := .char) Bd.returns (by simp) (hb hby dch_28) hr) (by decide) (by decide) ⟨by simp only [own_ch, if_neg hc2], rfl⟩ K0
theorem own_ch_rem (x : Int64) : ((x &&& (255 : Int64)).toInt32 % (255 : Int32)).toInt ≥ 0 ∧ ((x &&& (255 : Int64)).toInt32 % (255 : Int32)).toInt ≤ 254 := by
  have q := own_l255 x
  simp only [Int32.lt_iff_toInt_lt, show (0 : Int32).toInt = 0 from rfl, show (255 : Int32).toInt = 255 from rfl] at q
  have r := (c_irem ((x &&& (255 : Int64)).toInt32) (255 : Int32) 255 rfl).1 (by omega)
  omega
theorem own_i2c {v : Int32} (r : ¬ v < 0 ∧ ¬ (255 : Int32) < v) : v.toUInt32.toUInt16.toUInt32.toInt32 = v := nar_rng r
theorem own_ch_ok (p0 : Int64) (p1 : Int32) : (¬ own_ch p0 p1 < 0 ∧ ¬ (255 : Int32) < own_ch p0 p1) ∧ ¬ own_ch p0 p1 = 47 := by
  unfold own_ch
  generalize ((p0.toUInt64 >>> (((8 : Int32) * p1) &&& 0x3f).toInt64.toUInt64).toInt64) = x
  have q := own_ch_rem x
  generalize ((x &&& (255 : Int64)).toInt32 % (255 : Int32)) = v at *
  split
  · next h =>
    rw [Int32.lt_iff_toInt_lt, show (47 : Int32).toInt = 47 from rfl] at h
    have r : ¬ v < 0 ∧ ¬ (255 : Int32) < v := by simp only [Int32.lt_iff_toInt_lt, show (0 : Int32).toInt = 0 from rfl, show (255 : Int32).toInt = 255 from rfl]; omega
    rw [nar_i2c, own_i2c r]
    refine ⟨r, fun e => ?_⟩
    rw [e] at h; exact absurd h (by decide)
  · next h =>
    rw [Int32.lt_iff_toInt_lt, show (47 : Int32).toInt = 47 from rfl] at h
    have e1 : (v + 1).toInt = v.toInt + 1 := by rw [Int32.toInt_add, show (1 : Int32).toInt = 1 from rfl, Int.bmod_def]; omega
    have r : ¬ (v + 1) < 0 ∧ ¬ (255 : Int32) < (v + 1) := by simp only [Int32.lt_iff_toInt_lt, e1, show (0 : Int32).toInt = 0 from rfl, show (255 : Int32).toInt = 255 from rfl]; omega
    rw [nar_i2c, own_i2c r]
    refine ⟨r, fun e => ?_⟩
    have := congrArg Int32.toInt e; rw [e1, show (47 : Int32).toInt = 47 from rfl] at this; omega
theorem pd_11 : parseMethodDescriptor "([C)V" = some ⟨[(.array .char)], none⟩ := by decide +kernel
theorem dt1_0 : decode method_3_code 0 = .ok (.iload_n 1, 1) := by decide +kernel
theorem dt1_1 : decode method_3_code 1 = .ok (.newarray .char, 2) := by decide +kernel
theorem dt1_3 : decode method_3_code 3 = .ok (.astore_n 2, 1) := by decide +kernel
theorem dt1_4 : decode method_3_code 4 = .ok (.iload_n 1, 1) := by decide +kernel
theorem dt1_5 : decode method_3_code 5 = .ok (.ifCond .le 9, 3) := by decide +kernel
theorem dt1_8 : decode method_3_code 8 = .ok (.aload_n 2, 1) := by decide +kernel
theorem dt1_9 : decode method_3_code 9 = .ok (.iconst 0, 1) := by decide +kernel
theorem dt1_10 : decode method_3_code 10 = .ok (.aload_n 0, 1) := by decide +kernel
theorem dt1_11 : decode method_3_code 11 = .ok (.iconst 0, 1) := by decide +kernel
theorem dt1_12 : decode method_3_code 12 = .ok (.caload, 1) := by decide +kernel
theorem dt1_13 : decode method_3_code 13 = .ok (.castore, 1) := by decide +kernel
theorem dt1_14 : decode method_3_code 14 = .ok (.iload_n 1, 1) := by decide +kernel
theorem dt1_15 : decode method_3_code 15 = .ok (.iconst 1, 1) := by decide +kernel
theorem dt1_16 : decode method_3_code 16 = .ok (.if_icmp .le 9, 3) := by decide +kernel
theorem dt1_25 : decode method_3_code 25 = .ok (.iload_n 1, 1) := by decide +kernel
theorem dt1_26 : decode method_3_code 26 = .ok (.iconst 2, 1) := by decide +kernel
theorem dt1_27 : decode method_3_code 27 = .ok (.if_icmp .le 9, 3) := by decide +kernel
theorem dt1_36 : decode method_3_code 36 = .ok (.iload_n 1, 1) := by decide +kernel
theorem dt1_37 : decode method_3_code 37 = .ok (.iconst 3, 1) := by decide +kernel
theorem dt1_38 : decode method_3_code 38 = .ok (.if_icmp .le 9, 3) := by decide +kernel
theorem dt1_47 : decode method_3_code 47 = .ok (.iload_n 1, 1) := by decide +kernel
theorem dt1_48 : decode method_3_code 48 = .ok (.iconst 4, 1) := by decide +kernel
theorem dt1_49 : decode method_3_code 49 = .ok (.if_icmp .le 9, 3) := by decide +kernel
theorem dt1_58 : decode method_3_code 58 = .ok (.iload_n 1, 1) := by decide +kernel
theorem dt1_59 : decode method_3_code 59 = .ok (.iconst 5, 1) := by decide +kernel
theorem dt1_60 : decode method_3_code 60 = .ok (.if_icmp .le 9, 3) := by decide +kernel
theorem dt1_69 : decode method_3_code 69 = .ok (.iload_n 1, 1) := by decide +kernel
theorem dt1_70 : decode method_3_code 70 = .ok (.bipush 6, 2) := by decide +kernel
theorem dt1_72 : decode method_3_code 72 = .ok (.if_icmp .le 11, 3) := by decide +kernel
theorem dt1_83 : decode method_3_code 83 = .ok (.iload_n 1, 1) := by decide +kernel
theorem dt1_84 : decode method_3_code 84 = .ok (.bipush 7, 2) := by decide +kernel
theorem dt1_86 : decode method_3_code 86 = .ok (.if_icmp .le 11, 3) := by decide +kernel
theorem dt1_97 : decode method_3_code 97 = .ok (.new 9, 3) := by decide +kernel
theorem dt1_100 : decode method_3_code 100 = .ok (.dup, 1) := by decide +kernel
theorem dt1_101 : decode method_3_code 101 = .ok (.aload_n 2, 1) := by decide +kernel
theorem dt1_102 : decode method_3_code 102 = .ok (.invokespecial 11, 3) := by decide +kernel
theorem dt1_105 : decode method_3_code 105 = .ok (.areturn, 1) := by decide +kernel
theorem eft1 (m : MethodId) (x0 : Nat) (x1 : Int32) : entryFrame m #[(.ref x0), (.int x1)] 3 = mkF m 0 #[.val (.ref x0), .val (.int x1), .unset] [] := by first | (simp [entryFrame, mkF, argsToLocals, Value.category, maxLocals]; done) | rfl
theorem pn_15 : plainFor (⟨"com/example/bylaw/bylaw/TreePathParentPinLaw", "str", "([CI)Ljava/lang/String;"⟩ : MethodName) = true := by first | decide +kernel | (apply plainFor_of_name; simp [plainName, overriddenIn]; done)
set_option maxRecDepth 65536 in
set_option maxHeartbeats 40000000 in
theorem rmt1 (l : Launch) (Z : State) (a0 : Array Value) (hw : ∀ d ∈ tables_1, d.before a0 Z = true) (a : Nat) (k : ClassId) (c0 c1 c2 c3 c4 c5 c6 c7 : Int32) (h0 : Heap) (n0 : Nat) (Z0 : n0 ≤ h0.size) (hG : SetsOk Z) (X0 : Old Z n0 h0) (V0 : Arv Z h0 a k .char (8 : Int32) [(.int c0), (.int c1), (.int c2), (.int c3), (.int c4), (.int c5), (.int c6), (.int c7)] (.int (0 : Int32))) (r0 : ¬ c0 < 0 ∧ ¬ (255 : Int32) < c0) (r1 : ¬ c1 < 0 ∧ ¬ (255 : Int32) < c1) (r2 : ¬ c2 < 0 ∧ ¬ (255 : Int32) < c2) (r3 : ¬ c3 < 0 ∧ ¬ (255 : Int32) < c3) (r4 : ¬ c4 < 0 ∧ ¬ (255 : Int32) < c4) (r5 : ¬ c5 < 0 ∧ ¬ (255 : Int32) < c5) (r6 : ¬ c6 < 0 ∧ ¬ (255 : Int32) < c6) (r7 : ¬ c7 < 0 ∧ ¬ (255 : Int32) < c7) :
    NMet l Z (⟨"com/example/bylaw/bylaw/TreePathParentPinLaw", "str", "([CI)Ljava/lang/String;"⟩ : MethodName) method_3_code 3 (some (.object "java/lang/String")) [] ({ frames := 4, cells := 3, slots := 6, locals := 66 } : Room) [(.ref a), (.int (1 : Int32))] h0 n0 [] (fun v h => ∃ x, v = some (.ref x) ∧ n0 ≤ x ∧ Str Z h x [c0] h.size) := by
  refine MetFree.of_bodySF pn_15 hisR ?_
  intro p e s m args below meth c s₁ Bd hml0 hP hK
  obtain ⟨rfl, hZ, hh⟩ := hP
  have hx := Bd.exec
  have hby := Bd.bytes
  have hml : c.maxLocals = 3 := hml0
  have hnm := (name_of_methodNamed Bd.named Bd.method).1
  have w0 := Wk.start (a0 := a0) (EL := []) (n0 := n0) (nw := true) Bd hZ hh EW.nil chv0 (eft1 m a (1 : Int32)) ({ frames := 4, cells := 3, slots := 6, locals := 66 } : Room) rfl
  have K0 : Keep h0 h0 [] := Keep.refl _ _
  have lt_V0 := arlt V0
  have hq_backV : ∀ d ∈ StrChars.Road.words, d.before a0 Z = true := fun d hd => hw d ((by decide +kernel : ∀ d ∈ StrChars.Road.words, d ∈ tables_1) d hd)
  have w1 := w0.pure (mkF m 1 #[.val (.ref a), .val (.int (1 : Int32)), .unset] [(.int (1 : Int32))]) (fun X eT hZ hown k => by
      show Steps _ _ _ (State.setTop _ (mkF m 0 #[.val (.ref a), .val (.int (1 : Int32)), .unset] [])) _
      refine S.iloadN X.here hx (hb hby dt1_0) rfl ?_
      exact k)
  obtain ⟨b2, h2, k2, g2, E2, l2, A2, y2, w2⟩ := w1.newP hx (hw _ (List.mem_of_getElem? (i := 18) rfl)) rfl (hb hby dt1_1) rfl (by decide) 1 (by decide) (by decide) (by decide) (by decide) (fun xq => (mkF m 3 #[.val (.ref a), .val (.int (1 : Int32)), .unset] (.ref xq :: []))) (fun _ => rfl)
  have z2 := E2.1
  have K3 : Keep h0 h2 [] := K0.ext E2
  have V2 : Arv Z h2 b2 k2 .char (1 : Int32) [(.int (0 : Int32))] (.int (0 : Int32)) := A2.pad (pad_rep [] (.int (0 : Int32)) 1)
  have F4 := V0.ext E2
  have w5 := w2.pure (mkF m 13 #[.val (.ref a), .val (.int (1 : Int32)), .val (.ref b2)] [(.int c0), (.int (0 : Int32)), (.ref b2)]) (fun X eT hZ hown k => by
      show Steps _ _ _ (State.setTop _ (mkF m 3 #[.val (.ref a), .val (.int (1 : Int32)), .unset] [(.ref b2)])) _
      refine S.astoreN X.here hx (hb hby dt1_3) rfl #[.val (.ref a), .val (.int (1 : Int32)), .val (.ref b2)] rfl ?_
      refine S.iloadN X.here hx (hb hby dt1_4) rfl ?_
      refine S.ifNo X.here hx (hb hby dt1_5) (by decide) ?_
      refine S.aloadN X.here hx (hb hby dt1_8) rfl rfl ?_
      refine S.iconst X.here hx (0 : Int32) (hb hby dt1_9) rfl ?_
      refine S.aloadN X.here hx (hb hby dt1_10) rfl rfl ?_
      refine S.iconst X.here hx (0 : Int32) (hb hby dt1_11) rfl ?_
      refine caV X hx eT hZ F4 (v := (.int c0)) ⟨by decide, by decide⟩ rfl rfl rfl (hb hby dt1_12) ?_
      show Steps _ _ _ (State.setTop _ (mkF m 13 #[.val (.ref a), .val (.int (1 : Int32)), .val (.ref b2)] [(.int c0), (.int (0 : Int32)), (.ref b2)])) _
      exact k)
  obtain ⟨h6, W6, z6, V6, w6⟩ := w5.stC hx V2 0 rfl (Nat.le_of_ble_eq_true rfl) ⟨by decide, by decide⟩ rfl rfl (hb hby dt1_13) (by omega) (mkF m 14 #[.val (.ref a), .val (.int (1 : Int32)), .val (.ref b2)] []) rfl
  rw [nar_rng r0] at V6
  have U6 : Arv Z h6 b2 k2 .char (1 : Int32) [(.int c0)] (.int (0 : Int32)) := V6
  have K7 : Keep h0 h6 [] := K3.wr W6 (Or.inr (by omega))
  have w8 := w6.pure (mkF m 97 #[.val (.ref a), .val (.int (1 : Int32)), .val (.ref b2)] []) (fun X eT hZ hown k => by
      show Steps _ _ _ (State.setTop _ (mkF m 14 #[.val (.ref a), .val (.int (1 : Int32)), .val (.ref b2)] [])) _
      refine S.iloadN X.here hx (hb hby dt1_14) rfl ?_
      refine S.iconst X.here hx (1 : Int32) (hb hby dt1_15) rfl ?_
      refine S.icmpYes X.here hx 25 (hb hby dt1_16) (by decide) (by decide) (by decide) ?_
      refine S.iloadN X.here hx (hb hby dt1_25) rfl ?_
      refine S.iconst X.here hx (2 : Int32) (hb hby dt1_26) rfl ?_
      refine S.icmpYes X.here hx 36 (hb hby dt1_27) (by decide) (by decide) (by decide) ?_
      refine S.iloadN X.here hx (hb hby dt1_36) rfl ?_
      refine S.iconst X.here hx (3 : Int32) (hb hby dt1_37) rfl ?_
      refine S.icmpYes X.here hx 47 (hb hby dt1_38) (by decide) (by decide) (by decide) ?_
      refine S.iloadN X.here hx (hb hby dt1_47) rfl ?_
      refine S.iconst X.here hx (4 : Int32) (hb hby dt1_48) rfl ?_
      refine S.icmpYes X.here hx 58 (hb hby dt1_49) (by decide) (by decide) (by decide) ?_
      refine S.iloadN X.here hx (hb hby dt1_58) rfl ?_
      refine S.iconst X.here hx (5 : Int32) (hb hby dt1_59) rfl ?_
      refine S.icmpYes X.here hx 69 (hb hby dt1_60) (by decide) (by decide) (by decide) ?_
      refine S.iloadN X.here hx (hb hby dt1_69) rfl ?_
      refine S.bipush X.here hx (6 : Int32) (hb hby dt1_70) rfl ?_
      refine S.icmpYes X.here hx 83 (hb hby dt1_72) (by decide) (by decide) (by decide) ?_
      refine S.iloadN X.here hx (hb hby dt1_83) rfl ?_
      refine S.bipush X.here hx (7 : Int32) (hb hby dt1_84) rfl ?_
      refine S.icmpYes X.here hx 97 (hb hby dt1_86) (by decide) (by decide) (by decide) ?_
      exact k)
  obtain ⟨b9, h9, g9, E9, l9, A9, D9, y9, w9⟩ := w8.newO hx (hw _ (List.mem_of_getElem? (i := 27) rfl)) (hw _ (List.mem_of_getElem? (i := 2) rfl)) (hw _ (List.mem_of_getElem? (i := 1) rfl)) rfl (hb hby dt1_97) (by decide) (by decide) (fun xq => (mkF m 100 #[.val (.ref a), .val (.int (1 : Int32)), .val (.ref b2)] (.ref xq :: []))) (fun _ => rfl)
  have z9 := E9.1
  have K10 : Keep h0 h9 [] := K7.ext E9
  have D9_4 : Fld Z h9 b9 "java/lang/String" "value" "[B" .null := D9 (Or.inr (hw _ (List.mem_of_getElem? (i := 4) rfl))) (ty := (.array .byte)) (by decide)
  have D9_5 : Fld Z h9 b9 "java/lang/String" "coder" "B" (.int (0 : Int32)) := D9 (Or.inr (hw _ (List.mem_of_getElem? (i := 5) rfl))) (ty := .byte) (by decide)
  have w11 := w9.pure (mkF m 102 #[.val (.ref a), .val (.int (1 : Int32)), .val (.ref b2)] [(.ref b2), (.ref b9), (.ref b9)]) (fun X eT hZ hown k => by
      show Steps _ _ _ (State.setTop _ (mkF m 100 #[.val (.ref a), .val (.int (1 : Int32)), .val (.ref b2)] [(.ref b9)])) _
      refine S.dup X.here hx (hb hby dt1_100) rfl ?_
      refine S.aloadN X.here hx (hb hby dt1_101) rfl rfl ?_
      exact k)
  have F12 := U6.ext E9
  have F13 := X0.ext E2
  have F14 := F13.wr W6 (by omega)
  have F15 := F14.ext E9
  have r16 : ∀ c ∈ ([c0] : List Int32), ¬ c < 0 ∧ ¬ (255 : Int32) < c := (List.forall_mem_cons.mpr ⟨r0, (fun _ q => nomatch q)⟩)
  obtain ⟨v17, h17, Q17, K17, z17, w17⟩ := w11.callI hx (y := (⟨"java/lang/String", "<init>", "([C)V"⟩ : MethodName)) (W := 1) rfl (hw _ (List.mem_of_getElem? (i := 28) rfl)) (hw _ (List.mem_of_getElem? (i := 29) rfl)) (hw _ (List.mem_of_getElem? (i := 30) rfl)) (by decide) (payNew hG w11.hZ hq_backV (hw _ (List.mem_of_getElem? (i := 2) rfl)) [c0] 1 (by omega) A9 D9_4 D9_5 F12 F15 rfl rfl (by decide) (by decide) r16 (by decide) (by decide)) rfl (by rw [hml]; rfl) [(.ref b9)] (lenOf pd_11 rfl) rfl (by show 2 * 0 + _ ≤ _; exact Nat.le_of_eq rfl) (hb hby dt1_102) (by decide) (by decide) (fun _ _ => safe0) (fun rv => (mkF m 105 #[.val (.ref a), .val (.int (1 : Int32)), .val (.ref b2)] (rv.toList ++ [(.ref b9)]))) (fun _ => rfl)
  obtain ⟨rfl, G17⟩ := Q17
  have K18 : Keep h0 h17 [] := K10.trans K17 (allS (Or.inr (by omega)) (fun _ q => nomatch q))
  have lt_b9 := G17.lt
  exact w17.endN (v := some (.ref b9)) (Q := (fun v h => ∃ x, v = some (.ref x) ∧ n0 ≤ x ∧ Str Z h x [c0] h.size)) (wr := []) (h0 := h0) (fun h => by rw [Bd.returns] at h; cases h) Bd.notSynchronized (fun X hr => X.areturnOut hx rfl Bd.returns rfl (hb hby dt1_105) hr) (by decide) (by decide) ⟨b9, rfl, by omega, G17.more (by omega)⟩ K18
theorem dt2_0 : decode method_3_code 0 = .ok (.iload_n 1, 1) := by decide +kernel
theorem dt2_1 : decode method_3_code 1 = .ok (.newarray .char, 2) := by decide +kernel
theorem dt2_3 : decode method_3_code 3 = .ok (.astore_n 2, 1) := by decide +kernel
theorem dt2_4 : decode method_3_code 4 = .ok (.iload_n 1, 1) := by decide +kernel
theorem dt2_5 : decode method_3_code 5 = .ok (.ifCond .le 9, 3) := by decide +kernel
theorem dt2_8 : decode method_3_code 8 = .ok (.aload_n 2, 1) := by decide +kernel
theorem dt2_9 : decode method_3_code 9 = .ok (.iconst 0, 1) := by decide +kernel
theorem dt2_10 : decode method_3_code 10 = .ok (.aload_n 0, 1) := by decide +kernel
theorem dt2_11 : decode method_3_code 11 = .ok (.iconst 0, 1) := by decide +kernel
theorem dt2_12 : decode method_3_code 12 = .ok (.caload, 1) := by decide +kernel
theorem dt2_13 : decode method_3_code 13 = .ok (.castore, 1) := by decide +kernel
theorem dt2_14 : decode method_3_code 14 = .ok (.iload_n 1, 1) := by decide +kernel
theorem dt2_15 : decode method_3_code 15 = .ok (.iconst 1, 1) := by decide +kernel
theorem dt2_16 : decode method_3_code 16 = .ok (.if_icmp .le 9, 3) := by decide +kernel
theorem dt2_19 : decode method_3_code 19 = .ok (.aload_n 2, 1) := by decide +kernel
theorem dt2_20 : decode method_3_code 20 = .ok (.iconst 1, 1) := by decide +kernel
theorem dt2_21 : decode method_3_code 21 = .ok (.aload_n 0, 1) := by decide +kernel
theorem dt2_22 : decode method_3_code 22 = .ok (.iconst 1, 1) := by decide +kernel
theorem dt2_23 : decode method_3_code 23 = .ok (.caload, 1) := by decide +kernel
theorem dt2_24 : decode method_3_code 24 = .ok (.castore, 1) := by decide +kernel
theorem dt2_25 : decode method_3_code 25 = .ok (.iload_n 1, 1) := by decide +kernel
theorem dt2_26 : decode method_3_code 26 = .ok (.iconst 2, 1) := by decide +kernel
theorem dt2_27 : decode method_3_code 27 = .ok (.if_icmp .le 9, 3) := by decide +kernel
theorem dt2_36 : decode method_3_code 36 = .ok (.iload_n 1, 1) := by decide +kernel
theorem dt2_37 : decode method_3_code 37 = .ok (.iconst 3, 1) := by decide +kernel
theorem dt2_38 : decode method_3_code 38 = .ok (.if_icmp .le 9, 3) := by decide +kernel
theorem dt2_47 : decode method_3_code 47 = .ok (.iload_n 1, 1) := by decide +kernel
theorem dt2_48 : decode method_3_code 48 = .ok (.iconst 4, 1) := by decide +kernel
theorem dt2_49 : decode method_3_code 49 = .ok (.if_icmp .le 9, 3) := by decide +kernel
theorem dt2_58 : decode method_3_code 58 = .ok (.iload_n 1, 1) := by decide +kernel
theorem dt2_59 : decode method_3_code 59 = .ok (.iconst 5, 1) := by decide +kernel
theorem dt2_60 : decode method_3_code 60 = .ok (.if_icmp .le 9, 3) := by decide +kernel
theorem dt2_69 : decode method_3_code 69 = .ok (.iload_n 1, 1) := by decide +kernel
theorem dt2_70 : decode method_3_code 70 = .ok (.bipush 6, 2) := by decide +kernel
theorem dt2_72 : decode method_3_code 72 = .ok (.if_icmp .le 11, 3) := by decide +kernel
theorem dt2_83 : decode method_3_code 83 = .ok (.iload_n 1, 1) := by decide +kernel
theorem dt2_84 : decode method_3_code 84 = .ok (.bipush 7, 2) := by decide +kernel
theorem dt2_86 : decode method_3_code 86 = .ok (.if_icmp .le 11, 3) := by decide +kernel
theorem dt2_97 : decode method_3_code 97 = .ok (.new 9, 3) := by decide +kernel
theorem dt2_100 : decode method_3_code 100 = .ok (.dup, 1) := by decide +kernel
theorem dt2_101 : decode method_3_code 101 = .ok (.aload_n 2, 1) := by decide +kernel
theorem dt2_102 : decode method_3_code 102 = .ok (.invokespecial 11, 3) := by decide +kernel
theorem dt2_105 : decode method_3_code 105 = .ok (.areturn, 1) := by decide +kernel
theorem eft2 (m : MethodId) (x0 : Nat) (x1 : Int32) : entryFrame m #[(.ref x0), (.int x1)] 3 = mkF m 0 #[.val (.ref x0), .val (.int x1), .unset] [] := by first | (simp [entryFrame, mkF, argsToLocals, Value.category, maxLocals]; done) | rfl
set_option maxRecDepth 65536 in
set_option maxHeartbeats 40000000 in
theorem rmt2 (l : Launch) (Z : State) (a0 : Array Value) (hw : ∀ d ∈ tables_1, d.before a0 Z = true) (a : Nat) (k : ClassId) (c0 c1 c2 c3 c4 c5 c6 c7 : Int32) (h0 : Heap) (n0 : Nat) (Z0 : n0 ≤ h0.size) (hG : SetsOk Z) (X0 : Old Z n0 h0) (V0 : Arv Z h0 a k .char (8 : Int32) [(.int c0), (.int c1), (.int c2), (.int c3), (.int c4), (.int c5), (.int c6), (.int c7)] (.int (0 : Int32))) (r0 : ¬ c0 < 0 ∧ ¬ (255 : Int32) < c0) (r1 : ¬ c1 < 0 ∧ ¬ (255 : Int32) < c1) (r2 : ¬ c2 < 0 ∧ ¬ (255 : Int32) < c2) (r3 : ¬ c3 < 0 ∧ ¬ (255 : Int32) < c3) (r4 : ¬ c4 < 0 ∧ ¬ (255 : Int32) < c4) (r5 : ¬ c5 < 0 ∧ ¬ (255 : Int32) < c5) (r6 : ¬ c6 < 0 ∧ ¬ (255 : Int32) < c6) (r7 : ¬ c7 < 0 ∧ ¬ (255 : Int32) < c7) :
    NMet l Z (⟨"com/example/bylaw/bylaw/TreePathParentPinLaw", "str", "([CI)Ljava/lang/String;"⟩ : MethodName) method_3_code 3 (some (.object "java/lang/String")) [] ({ frames := 4, cells := 3, slots := 8, locals := 66 } : Room) [(.ref a), (.int (2 : Int32))] h0 n0 [] (fun v h => ∃ x, v = some (.ref x) ∧ n0 ≤ x ∧ Str Z h x [c0, c1] h.size) := by
  refine MetFree.of_bodySF pn_15 hisR ?_
  intro p e s m args below meth c s₁ Bd hml0 hP hK
  obtain ⟨rfl, hZ, hh⟩ := hP
  have hx := Bd.exec
  have hby := Bd.bytes
  have hml : c.maxLocals = 3 := hml0
  have hnm := (name_of_methodNamed Bd.named Bd.method).1
  have w0 := Wk.start (a0 := a0) (EL := []) (n0 := n0) (nw := true) Bd hZ hh EW.nil chv0 (eft2 m a (2 : Int32)) ({ frames := 4, cells := 3, slots := 8, locals := 66 } : Room) rfl
  have K0 : Keep h0 h0 [] := Keep.refl _ _
  have lt_V0 := arlt V0
  have hq_backV : ∀ d ∈ StrChars.Road.words, d.before a0 Z = true := fun d hd => hw d ((by decide +kernel : ∀ d ∈ StrChars.Road.words, d ∈ tables_1) d hd)
  have w1 := w0.pure (mkF m 1 #[.val (.ref a), .val (.int (2 : Int32)), .unset] [(.int (2 : Int32))]) (fun X eT hZ hown k => by
      show Steps _ _ _ (State.setTop _ (mkF m 0 #[.val (.ref a), .val (.int (2 : Int32)), .unset] [])) _
      refine S.iloadN X.here hx (hb hby dt2_0) rfl ?_
      exact k)
  obtain ⟨b2, h2, k2, g2, E2, l2, A2, y2, w2⟩ := w1.newP hx (hw _ (List.mem_of_getElem? (i := 18) rfl)) rfl (hb hby dt2_1) rfl (by decide) 2 (by decide) (by decide) (by decide) (by decide) (fun xq => (mkF m 3 #[.val (.ref a), .val (.int (2 : Int32)), .unset] (.ref xq :: []))) (fun _ => rfl)
  have z2 := E2.1
  have K3 : Keep h0 h2 [] := K0.ext E2
  have V2 : Arv Z h2 b2 k2 .char (2 : Int32) [(.int (0 : Int32)), (.int (0 : Int32))] (.int (0 : Int32)) := A2.pad (pad_rep [] (.int (0 : Int32)) 2)
  have F4 := V0.ext E2
  have w5 := w2.pure (mkF m 13 #[.val (.ref a), .val (.int (2 : Int32)), .val (.ref b2)] [(.int c0), (.int (0 : Int32)), (.ref b2)]) (fun X eT hZ hown k => by
      show Steps _ _ _ (State.setTop _ (mkF m 3 #[.val (.ref a), .val (.int (2 : Int32)), .unset] [(.ref b2)])) _
      refine S.astoreN X.here hx (hb hby dt2_3) rfl #[.val (.ref a), .val (.int (2 : Int32)), .val (.ref b2)] rfl ?_
      refine S.iloadN X.here hx (hb hby dt2_4) rfl ?_
      refine S.ifNo X.here hx (hb hby dt2_5) (by decide) ?_
      refine S.aloadN X.here hx (hb hby dt2_8) rfl rfl ?_
      refine S.iconst X.here hx (0 : Int32) (hb hby dt2_9) rfl ?_
      refine S.aloadN X.here hx (hb hby dt2_10) rfl rfl ?_
      refine S.iconst X.here hx (0 : Int32) (hb hby dt2_11) rfl ?_
      refine caV X hx eT hZ F4 (v := (.int c0)) ⟨by decide, by decide⟩ rfl rfl rfl (hb hby dt2_12) ?_
      show Steps _ _ _ (State.setTop _ (mkF m 13 #[.val (.ref a), .val (.int (2 : Int32)), .val (.ref b2)] [(.int c0), (.int (0 : Int32)), (.ref b2)])) _
      exact k)
  obtain ⟨h6, W6, z6, V6, w6⟩ := w5.stC hx V2 0 rfl (Nat.le_of_ble_eq_true rfl) ⟨by decide, by decide⟩ rfl rfl (hb hby dt2_13) (by omega) (mkF m 14 #[.val (.ref a), .val (.int (2 : Int32)), .val (.ref b2)] []) rfl
  rw [nar_rng r0] at V6
  have U6 : Arv Z h6 b2 k2 .char (2 : Int32) [(.int c0), (.int (0 : Int32))] (.int (0 : Int32)) := V6
  have K7 : Keep h0 h6 [] := K3.wr W6 (Or.inr (by omega))
  have F8 := F4.other W6 (nne (by omega))
  have w9 := w6.pure (mkF m 24 #[.val (.ref a), .val (.int (2 : Int32)), .val (.ref b2)] [(.int c1), (.int (1 : Int32)), (.ref b2)]) (fun X eT hZ hown k => by
      show Steps _ _ _ (State.setTop _ (mkF m 14 #[.val (.ref a), .val (.int (2 : Int32)), .val (.ref b2)] [])) _
      refine S.iloadN X.here hx (hb hby dt2_14) rfl ?_
      refine S.iconst X.here hx (1 : Int32) (hb hby dt2_15) rfl ?_
      refine S.icmpNo X.here hx (hb hby dt2_16) (by decide) ?_
      refine S.aloadN X.here hx (hb hby dt2_19) rfl rfl ?_
      refine S.iconst X.here hx (1 : Int32) (hb hby dt2_20) rfl ?_
      refine S.aloadN X.here hx (hb hby dt2_21) rfl rfl ?_
      refine S.iconst X.here hx (1 : Int32) (hb hby dt2_22) rfl ?_
      refine caV X hx eT hZ F8 (v := (.int c1)) ⟨by decide, by decide⟩ rfl rfl rfl (hb hby dt2_23) ?_
      show Steps _ _ _ (State.setTop _ (mkF m 24 #[.val (.ref a), .val (.int (2 : Int32)), .val (.ref b2)] [(.int c1), (.int (1 : Int32)), (.ref b2)])) _
      exact k)
  obtain ⟨h10, W10, z10, V10, w10⟩ := w9.stC hx U6 1 rfl (Nat.le_of_ble_eq_true rfl) ⟨by decide, by decide⟩ rfl rfl (hb hby dt2_24) (by omega) (mkF m 25 #[.val (.ref a), .val (.int (2 : Int32)), .val (.ref b2)] []) rfl
  rw [nar_rng r1] at V10
  have U10 : Arv Z h10 b2 k2 .char (2 : Int32) [(.int c0), (.int c1)] (.int (0 : Int32)) := V10
  have K11 : Keep h0 h10 [] := K7.wr W10 (Or.inr (by omega))
  have w12 := w10.pure (mkF m 97 #[.val (.ref a), .val (.int (2 : Int32)), .val (.ref b2)] []) (fun X eT hZ hown k => by
      show Steps _ _ _ (State.setTop _ (mkF m 25 #[.val (.ref a), .val (.int (2 : Int32)), .val (.ref b2)] [])) _
      refine S.iloadN X.here hx (hb hby dt2_25) rfl ?_
      refine S.iconst X.here hx (2 : Int32) (hb hby dt2_26) rfl ?_
      refine S.icmpYes X.here hx 36 (hb hby dt2_27) (by decide) (by decide) (by decide) ?_
      refine S.iloadN X.here hx (hb hby dt2_36) rfl ?_
      refine S.iconst X.here hx (3 : Int32) (hb hby dt2_37) rfl ?_
      refine S.icmpYes X.here hx 47 (hb hby dt2_38) (by decide) (by decide) (by decide) ?_
      refine S.iloadN X.here hx (hb hby dt2_47) rfl ?_
      refine S.iconst X.here hx (4 : Int32) (hb hby dt2_48) rfl ?_
      refine S.icmpYes X.here hx 58 (hb hby dt2_49) (by decide) (by decide) (by decide) ?_
      refine S.iloadN X.here hx (hb hby dt2_58) rfl ?_
      refine S.iconst X.here hx (5 : Int32) (hb hby dt2_59) rfl ?_
      refine S.icmpYes X.here hx 69 (hb hby dt2_60) (by decide) (by decide) (by decide) ?_
      refine S.iloadN X.here hx (hb hby dt2_69) rfl ?_
      refine S.bipush X.here hx (6 : Int32) (hb hby dt2_70) rfl ?_
      refine S.icmpYes X.here hx 83 (hb hby dt2_72) (by decide) (by decide) (by decide) ?_
      refine S.iloadN X.here hx (hb hby dt2_83) rfl ?_
      refine S.bipush X.here hx (7 : Int32) (hb hby dt2_84) rfl ?_
      refine S.icmpYes X.here hx 97 (hb hby dt2_86) (by decide) (by decide) (by decide) ?_
      exact k)
  obtain ⟨b13, h13, g13, E13, l13, A13, D13, y13, w13⟩ := w12.newO hx (hw _ (List.mem_of_getElem? (i := 27) rfl)) (hw _ (List.mem_of_getElem? (i := 2) rfl)) (hw _ (List.mem_of_getElem? (i := 1) rfl)) rfl (hb hby dt2_97) (by decide) (by decide) (fun xq => (mkF m 100 #[.val (.ref a), .val (.int (2 : Int32)), .val (.ref b2)] (.ref xq :: []))) (fun _ => rfl)
  have z13 := E13.1
  have K14 : Keep h0 h13 [] := K11.ext E13
  have D13_4 : Fld Z h13 b13 "java/lang/String" "value" "[B" .null := D13 (Or.inr (hw _ (List.mem_of_getElem? (i := 4) rfl))) (ty := (.array .byte)) (by decide)
  have D13_5 : Fld Z h13 b13 "java/lang/String" "coder" "B" (.int (0 : Int32)) := D13 (Or.inr (hw _ (List.mem_of_getElem? (i := 5) rfl))) (ty := .byte) (by decide)
  have w15 := w13.pure (mkF m 102 #[.val (.ref a), .val (.int (2 : Int32)), .val (.ref b2)] [(.ref b2), (.ref b13), (.ref b13)]) (fun X eT hZ hown k => by
      show Steps _ _ _ (State.setTop _ (mkF m 100 #[.val (.ref a), .val (.int (2 : Int32)), .val (.ref b2)] [(.ref b13)])) _
      refine S.dup X.here hx (hb hby dt2_100) rfl ?_
      refine S.aloadN X.here hx (hb hby dt2_101) rfl rfl ?_
      exact k)
  have F16 := U10.ext E13
  have F17 := X0.ext E2
  have F18 := F17.wr W6 (by omega)
  have F19 := F18.wr W10 (by omega)
  have F20 := F19.ext E13
  have r21 : ∀ c ∈ ([c0, c1] : List Int32), ¬ c < 0 ∧ ¬ (255 : Int32) < c := (List.forall_mem_cons.mpr ⟨r0, (List.forall_mem_cons.mpr ⟨r1, (fun _ q => nomatch q)⟩)⟩)
  obtain ⟨v22, h22, Q22, K22, z22, w22⟩ := w15.callI hx (y := (⟨"java/lang/String", "<init>", "([C)V"⟩ : MethodName)) (W := 1) rfl (hw _ (List.mem_of_getElem? (i := 28) rfl)) (hw _ (List.mem_of_getElem? (i := 29) rfl)) (hw _ (List.mem_of_getElem? (i := 30) rfl)) (by decide) (payNew hG w15.hZ hq_backV (hw _ (List.mem_of_getElem? (i := 2) rfl)) [c0, c1] 2 (by omega) A13 D13_4 D13_5 F16 F20 rfl rfl (by decide) (by decide) r21 (by decide) (by decide)) rfl (by rw [hml]; rfl) [(.ref b13)] (lenOf pd_11 rfl) rfl (by show 2 * 0 + _ ≤ _; exact Nat.le_of_eq rfl) (hb hby dt2_102) (by decide) (by decide) (fun _ _ => safe0) (fun rv => (mkF m 105 #[.val (.ref a), .val (.int (2 : Int32)), .val (.ref b2)] (rv.toList ++ [(.ref b13)]))) (fun _ => rfl)
  obtain ⟨rfl, G22⟩ := Q22
  have K23 : Keep h0 h22 [] := K14.trans K22 (allS (Or.inr (by omega)) (fun _ q => nomatch q))
  have lt_b13 := G22.lt
  exact w22.endN (v := some (.ref b13)) (Q := (fun v h => ∃ x, v = some (.ref x) ∧ n0 ≤ x ∧ Str Z h x [c0, c1] h.size)) (wr := []) (h0 := h0) (fun h => by rw [Bd.returns] at h; cases h) Bd.notSynchronized (fun X hr => X.areturnOut hx rfl Bd.returns rfl (hb hby dt2_105) hr) (by decide) (by decide) ⟨b13, rfl, by omega, G22.more (by omega)⟩ K23
theorem dt3_0 : decode method_3_code 0 = .ok (.iload_n 1, 1) := by decide +kernel
theorem dt3_1 : decode method_3_code 1 = .ok (.newarray .char, 2) := by decide +kernel
theorem dt3_3 : decode method_3_code 3 = .ok (.astore_n 2, 1) := by decide +kernel
theorem dt3_4 : decode method_3_code 4 = .ok (.iload_n 1, 1) := by decide +kernel
theorem dt3_5 : decode method_3_code 5 = .ok (.ifCond .le 9, 3) := by decide +kernel
theorem dt3_8 : decode method_3_code 8 = .ok (.aload_n 2, 1) := by decide +kernel
theorem dt3_9 : decode method_3_code 9 = .ok (.iconst 0, 1) := by decide +kernel
theorem dt3_10 : decode method_3_code 10 = .ok (.aload_n 0, 1) := by decide +kernel
theorem dt3_11 : decode method_3_code 11 = .ok (.iconst 0, 1) := by decide +kernel
theorem dt3_12 : decode method_3_code 12 = .ok (.caload, 1) := by decide +kernel
theorem dt3_13 : decode method_3_code 13 = .ok (.castore, 1) := by decide +kernel
theorem dt3_14 : decode method_3_code 14 = .ok (.iload_n 1, 1) := by decide +kernel
theorem dt3_15 : decode method_3_code 15 = .ok (.iconst 1, 1) := by decide +kernel
theorem dt3_16 : decode method_3_code 16 = .ok (.if_icmp .le 9, 3) := by decide +kernel
theorem dt3_19 : decode method_3_code 19 = .ok (.aload_n 2, 1) := by decide +kernel
theorem dt3_20 : decode method_3_code 20 = .ok (.iconst 1, 1) := by decide +kernel
theorem dt3_21 : decode method_3_code 21 = .ok (.aload_n 0, 1) := by decide +kernel
theorem dt3_22 : decode method_3_code 22 = .ok (.iconst 1, 1) := by decide +kernel
theorem dt3_23 : decode method_3_code 23 = .ok (.caload, 1) := by decide +kernel
theorem dt3_24 : decode method_3_code 24 = .ok (.castore, 1) := by decide +kernel
theorem dt3_25 : decode method_3_code 25 = .ok (.iload_n 1, 1) := by decide +kernel
theorem dt3_26 : decode method_3_code 26 = .ok (.iconst 2, 1) := by decide +kernel
theorem dt3_27 : decode method_3_code 27 = .ok (.if_icmp .le 9, 3) := by decide +kernel
theorem dt3_30 : decode method_3_code 30 = .ok (.aload_n 2, 1) := by decide +kernel
theorem dt3_31 : decode method_3_code 31 = .ok (.iconst 2, 1) := by decide +kernel
theorem dt3_32 : decode method_3_code 32 = .ok (.aload_n 0, 1) := by decide +kernel
theorem dt3_33 : decode method_3_code 33 = .ok (.iconst 2, 1) := by decide +kernel
theorem dt3_34 : decode method_3_code 34 = .ok (.caload, 1) := by decide +kernel
theorem dt3_35 : decode method_3_code 35 = .ok (.castore, 1) := by decide +kernel
theorem dt3_36 : decode method_3_code 36 = .ok (.iload_n 1, 1) := by decide +kernel
theorem dt3_37 : decode method_3_code 37 = .ok (.iconst 3, 1) := by decide +kernel
theorem dt3_38 : decode method_3_code 38 = .ok (.if_icmp .le 9, 3) := by decide +kernel
theorem dt3_47 : decode method_3_code 47 = .ok (.iload_n 1, 1) := by decide +kernel
theorem dt3_48 : decode method_3_code 48 = .ok (.iconst 4, 1) := by decide +kernel
theorem dt3_49 : decode method_3_code 49 = .ok (.if_icmp .le 9, 3) := by decide +kernel
theorem dt3_58 : decode method_3_code 58 = .ok (.iload_n 1, 1) := by decide +kernel
theorem dt3_59 : decode method_3_code 59 = .ok (.iconst 5, 1) := by decide +kernel
theorem dt3_60 : decode method_3_code 60 = .ok (.if_icmp .le 9, 3) := by decide +kernel
theorem dt3_69 : decode method_3_code 69 = .ok (.iload_n 1, 1) := by decide +kernel
theorem dt3_70 : decode method_3_code 70 = .ok (.bipush 6, 2) := by decide +kernel
theorem dt3_72 : decode method_3_code 72 = .ok (.if_icmp .le 11, 3) := by decide +kernel
theorem dt3_83 : decode method_3_code 83 = .ok (.iload_n 1, 1) := by decide +kernel
theorem dt3_84 : decode method_3_code 84 = .ok (.bipush 7, 2) := by decide +kernel
theorem dt3_86 : decode method_3_code 86 = .ok (.if_icmp .le 11, 3) := by decide +kernel
theorem dt3_97 : decode method_3_code 97 = .ok (.new 9, 3) := by decide +kernel
theorem dt3_100 : decode method_3_code 100 = .ok (.dup, 1) := by decide +kernel
theorem dt3_101 : decode method_3_code 101 = .ok (.aload_n 2, 1) := by decide +kernel
theorem dt3_102 : decode method_3_code 102 = .ok (.invokespecial 11, 3) := by decide +kernel
theorem dt3_105 : decode method_3_code 105 = .ok (.areturn, 1) := by decide +kernel
theorem eft3 (m : MethodId) (x0 : Nat) (x1 : Int32) : entryFrame m #[(.ref x0), (.int x1)] 3 = mkF m 0 #[.val (.ref x0), .val (.int x1), .unset] [] := by first | (simp [entryFrame, mkF, argsToLocals, Value.category, maxLocals]; done) | rfl
set_option maxRecDepth 65536 in
set_option maxHeartbeats 40000000 in
theorem rmt3 (l : Launch) (Z : State) (a0 : Array Value) (hw : ∀ d ∈ tables_1, d.before a0 Z = true) (a : Nat) (k : ClassId) (c0 c1 c2 c3 c4 c5 c6 c7 : Int32) (h0 : Heap) (n0 : Nat) (Z0 : n0 ≤ h0.size) (hG : SetsOk Z) (X0 : Old Z n0 h0) (V0 : Arv Z h0 a k .char (8 : Int32) [(.int c0), (.int c1), (.int c2), (.int c3), (.int c4), (.int c5), (.int c6), (.int c7)] (.int (0 : Int32))) (r0 : ¬ c0 < 0 ∧ ¬ (255 : Int32) < c0) (r1 : ¬ c1 < 0 ∧ ¬ (255 : Int32) < c1) (r2 : ¬ c2 < 0 ∧ ¬ (255 : Int32) < c2) (r3 : ¬ c3 < 0 ∧ ¬ (255 : Int32) < c3) (r4 : ¬ c4 < 0 ∧ ¬ (255 : Int32) < c4) (r5 : ¬ c5 < 0 ∧ ¬ (255 : Int32) < c5) (r6 : ¬ c6 < 0 ∧ ¬ (255 : Int32) < c6) (r7 : ¬ c7 < 0 ∧ ¬ (255 : Int32) < c7) :
    NMet l Z (⟨"com/example/bylaw/bylaw/TreePathParentPinLaw", "str", "([CI)Ljava/lang/String;"⟩ : MethodName) method_3_code 3 (some (.object "java/lang/String")) [] ({ frames := 4, cells := 3, slots := 10, locals := 66 } : Room) [(.ref a), (.int (3 : Int32))] h0 n0 [] (fun v h => ∃ x, v = some (.ref x) ∧ n0 ≤ x ∧ Str Z h x [c0, c1, c2] h.size) := by
  refine MetFree.of_bodySF pn_15 hisR ?_
  intro p e s m args below meth c s₁ Bd hml0 hP hK
  obtain ⟨rfl, hZ, hh⟩ := hP
  have hx := Bd.exec
  have hby := Bd.bytes
  have hml : c.maxLocals = 3 := hml0
  have hnm := (name_of_methodNamed Bd.named Bd.method).1
  have w0 := Wk.start (a0 := a0) (EL := []) (n0 := n0) (nw := true) Bd hZ hh EW.nil chv0 (eft3 m a (3 : Int32)) ({ frames := 4, cells := 3, slots := 10, locals := 66 } : Room) rfl
  have K0 : Keep h0 h0 [] := Keep.refl _ _
  have lt_V0 := arlt V0
  have hq_backV : ∀ d ∈ StrChars.Road.words, d.before a0 Z = true := fun d hd => hw d ((by decide +kernel : ∀ d ∈ StrChars.Road.words, d ∈ tables_1) d hd)
  have w1 := w0.pure (mkF m 1 #[.val (.ref a), .val (.int (3 : Int32)), .unset] [(.int (3 : Int32))]) (fun X eT hZ hown k => by
      show Steps _ _ _ (State.setTop _ (mkF m 0 #[.val (.ref a), .val (.int (3 : Int32)), .unset] [])) _
      refine S.iloadN X.here hx (hb hby dt3_0) rfl ?_
      exact k)
  obtain ⟨b2, h2, k2, g2, E2, l2, A2, y2, w2⟩ := w1.newP hx (hw _ (List.mem_of_getElem? (i := 18) rfl)) rfl (hb hby dt3_1) rfl (by decide) 3 (by decide) (by decide) (by decide) (by decide) (fun xq => (mkF m 3 #[.val (.ref a), .val (.int (3 : Int32)), .unset] (.ref xq :: []))) (fun _ => rfl)
  have z2 := E2.1
  have K3 : Keep h0 h2 [] := K0.ext E2
  have V2 : Arv Z h2 b2 k2 .char (3 : Int32) [(.int (0 : Int32)), (.int (0 : Int32)), (.int (0 : Int32))] (.int (0 : Int32)) := A2.pad (pad_rep [] (.int (0 : Int32)) 3)
  have F4 := V0.ext E2
  have w5 := w2.pure (mkF m 13 #[.val (.ref a), .val (.int (3 : Int32)), .val (.ref b2)] [(.int c0), (.int (0 : Int32)), (.ref b2)]) (fun X eT hZ hown k => by
      show Steps _ _ _ (State.setTop _ (mkF m 3 #[.val (.ref a), .val (.int (3 : Int32)), .unset] [(.ref b2)])) _
      refine S.astoreN X.here hx (hb hby dt3_3) rfl #[.val (.ref a), .val (.int (3 : Int32)), .val (.ref b2)] rfl ?_
      refine S.iloadN X.here hx (hb hby dt3_4) rfl ?_
      refine S.ifNo X.here hx (hb hby dt3_5) (by decide) ?_
      refine S.aloadN X.here hx (hb hby dt3_8) rfl rfl ?_
      refine S.iconst X.here hx (0 : Int32) (hb hby dt3_9) rfl ?_
      refine S.aloadN X.here hx (hb hby dt3_10) rfl rfl ?_
      refine S.iconst X.here hx (0 : Int32) (hb hby dt3_11) rfl ?_
      refine caV X hx eT hZ F4 (v := (.int c0)) ⟨by decide, by decide⟩ rfl rfl rfl (hb hby dt3_12) ?_
      show Steps _ _ _ (State.setTop _ (mkF m 13 #[.val (.ref a), .val (.int (3 : Int32)), .val (.ref b2)] [(.int c0), (.int (0 : Int32)), (.ref b2)])) _
      exact k)
  obtain ⟨h6, W6, z6, V6, w6⟩ := w5.stC hx V2 0 rfl (Nat.le_of_ble_eq_true rfl) ⟨by decide, by decide⟩ rfl rfl (hb hby dt3_13) (by omega) (mkF m 14 #[.val (.ref a), .val (.int (3 : Int32)), .val (.ref b2)] []) rfl
  rw [nar_rng r0] at V6
  have U6 : Arv Z h6 b2 k2 .char (3 : Int32) [(.int c0), (.int (0 : Int32)), (.int (0 : Int32))] (.int (0 : Int32)) := V6
  have K7 : Keep h0 h6 [] := K3.wr W6 (Or.inr (by omega))
  have F8 := F4.other W6 (nne (by omega))
  have w9 := w6.pure (mkF m 24 #[.val (.ref a), .val (.int (3 : Int32)), .val (.ref b2)] [(.int c1), (.int (1 : Int32)), (.ref b2)]) (fun X eT hZ hown k => by
      show Steps _ _ _ (State.setTop _ (mkF m 14 #[.val (.ref a), .val (.int (3 : Int32)), .val (.ref b2)] [])) _
      refine S.iloadN X.here hx (hb hby dt3_14) rfl ?_
      refine S.iconst X.here hx (1 : Int32) (hb hby dt3_15) rfl ?_
      refine S.icmpNo X.here hx (hb hby dt3_16) (by decide) ?_
      refine S.aloadN X.here hx (hb hby dt3_19) rfl rfl ?_
      refine S.iconst X.here hx (1 : Int32) (hb hby dt3_20) rfl ?_
      refine S.aloadN X.here hx (hb hby dt3_21) rfl rfl ?_
      refine S.iconst X.here hx (1 : Int32) (hb hby dt3_22) rfl ?_
      refine caV X hx eT hZ F8 (v := (.int c1)) ⟨by decide, by decide⟩ rfl rfl rfl (hb hby dt3_23) ?_
      show Steps _ _ _ (State.setTop _ (mkF m 24 #[.val (.ref a), .val (.int (3 : Int32)), .val (.ref b2)] [(.int c1), (.int (1 : Int32)), (.ref b2)])) _
      exact k)
  obtain ⟨h10, W10, z10, V10, w10⟩ := w9.stC hx U6 1 rfl (Nat.le_of_ble_eq_true rfl) ⟨by decide, by decide⟩ rfl rfl (hb hby dt3_24) (by omega) (mkF m 25 #[.val (.ref a), .val (.int (3 : Int32)), .val (.ref b2)] []) rfl
  rw [nar_rng r1] at V10
  have U10 : Arv Z h10 b2 k2 .char (3 : Int32) [(.int c0), (.int c1), (.int (0 : Int32))] (.int (0 : Int32)) := V10
  have K11 : Keep h0 h10 [] := K7.wr W10 (Or.inr (by omega))
  have F12 := F8.other W10 (nne (by omega))
  have w13 := w10.pure (mkF m 35 #[.val (.ref a), .val (.int (3 : Int32)), .val (.ref b2)] [(.int c2), (.int (2 : Int32)), (.ref b2)]) (fun X eT hZ hown k => by
      show Steps _ _ _ (State.setTop _ (mkF m 25 #[.val (.ref a), .val (.int (3 : Int32)), .val (.ref b2)] [])) _
      refine S.iloadN X.here hx (hb hby dt3_25) rfl ?_
      refine S.iconst X.here hx (2 : Int32) (hb hby dt3_26) rfl ?_
      refine S.icmpNo X.here hx (hb hby dt3_27) (by decide) ?_
      refine S.aloadN X.here hx (hb hby dt3_30) rfl rfl ?_
      refine S.iconst X.here hx (2 : Int32) (hb hby dt3_31) rfl ?_
      refine S.aloadN X.here hx (hb hby dt3_32) rfl rfl ?_
      refine S.iconst X.here hx (2 : Int32) (hb hby dt3_33) rfl ?_
      refine caV X hx eT hZ F12 (v := (.int c2)) ⟨by decide, by decide⟩ rfl rfl rfl (hb hby dt3_34) ?_
      show Steps _ _ _ (State.setTop _ (mkF m 35 #[.val (.ref a), .val (.int (3 : Int32)), .val (.ref b2)] [(.int c2), (.int (2 : Int32)), (.ref b2)])) _
      exact k)
  obtain ⟨h14, W14, z14, V14, w14⟩ := w13.stC hx U10 2 rfl (Nat.le_of_ble_eq_true rfl) ⟨by decide, by decide⟩ rfl rfl (hb hby dt3_35) (by omega) (mkF m 36 #[.val (.ref a), .val (.int (3 : Int32)), .val (.ref b2)] []) rfl
  rw [nar_rng r2] at V14
  have U14 : Arv Z h14 b2 k2 .char (3 : Int32) [(.int c0), (.int c1), (.int c2)] (.int (0 : Int32)) := V14
  have K15 : Keep h0 h14 [] := K11.wr W14 (Or.inr (by omega))
  have w16 := w14.pure (mkF m 97 #[.val (.ref a), .val (.int (3 : Int32)), .val (.ref b2)] []) (fun X eT hZ hown k => by
      show Steps _ _ _ (State.setTop _ (mkF m 36 #[.val (.ref a), .val (.int (3 : Int32)), .val (.ref b2)] [])) _
      refine S.iloadN X.here hx (hb hby dt3_36) rfl ?_
      refine S.iconst X.here hx (3 : Int32) (hb hby dt3_37) rfl ?_
      refine S.icmpYes X.here hx 47 (hb hby dt3_38) (by decide) (by decide) (by decide) ?_
      refine S.iloadN X.here hx (hb hby dt3_47) rfl ?_
      refine S.iconst X.here hx (4 : Int32) (hb hby dt3_48) rfl ?_
      refine S.icmpYes X.here hx 58 (hb hby dt3_49) (by decide) (by decide) (by decide) ?_
      refine S.iloadN X.here hx (hb hby dt3_58) rfl ?_
      refine S.iconst X.here hx (5 : Int32) (hb hby dt3_59) rfl ?_
      refine S.icmpYes X.here hx 69 (hb hby dt3_60) (by decide) (by decide) (by decide) ?_
      refine S.iloadN X.here hx (hb hby dt3_69) rfl ?_
      refine S.bipush X.here hx (6 : Int32) (hb hby dt3_70) rfl ?_
      refine S.icmpYes X.here hx 83 (hb hby dt3_72) (by decide) (by decide) (by decide) ?_
      refine S.iloadN X.here hx (hb hby dt3_83) rfl ?_
      refine S.bipush X.here hx (7 : Int32) (hb hby dt3_84) rfl ?_
      refine S.icmpYes X.here hx 97 (hb hby dt3_86) (by decide) (by decide) (by decide) ?_
      exact k)
  obtain ⟨b17, h17, g17, E17, l17, A17, D17, y17, w17⟩ := w16.newO hx (hw _ (List.mem_of_getElem? (i := 27) rfl)) (hw _ (List.mem_of_getElem? (i := 2) rfl)) (hw _ (List.mem_of_getElem? (i := 1) rfl)) rfl (hb hby dt3_97) (by decide) (by decide) (fun xq => (mkF m 100 #[.val (.ref a), .val (.int (3 : Int32)), .val (.ref b2)] (.ref xq :: []))) (fun _ => rfl)
  have z17 := E17.1
  have K18 : Keep h0 h17 [] := K15.ext E17
  have D17_4 : Fld Z h17 b17 "java/lang/String" "value" "[B" .null := D17 (Or.inr (hw _ (List.mem_of_getElem? (i := 4) rfl))) (ty := (.array .byte)) (by decide)
  have D17_5 : Fld Z h17 b17 "java/lang/String" "coder" "B" (.int (0 : Int32)) := D17 (Or.inr (hw _ (List.mem_of_getElem? (i := 5) rfl))) (ty := .byte) (by decide)
  have w19 := w17.pure (mkF m 102 #[.val (.ref a), .val (.int (3 : Int32)), .val (.ref b2)] [(.ref b2), (.ref b17), (.ref b17)]) (fun X eT hZ hown k => by
      show Steps _ _ _ (State.setTop _ (mkF m 100 #[.val (.ref a), .val (.int (3 : Int32)), .val (.ref b2)] [(.ref b17)])) _
      refine S.dup X.here hx (hb hby dt3_100) rfl ?_
      refine S.aloadN X.here hx (hb hby dt3_101) rfl rfl ?_
      exact k)
  have F20 := U14.ext E17
  have F21 := X0.ext E2
  have F22 := F21.wr W6 (by omega)
  have F23 := F22.wr W10 (by omega)
  have F24 := F23.wr W14 (by omega)
  have F25 := F24.ext E17
  have r26 : ∀ c ∈ ([c0, c1, c2] : List Int32), ¬ c < 0 ∧ ¬ (255 : Int32) < c := (List.forall_mem_cons.mpr ⟨r0, (List.forall_mem_cons.mpr ⟨r1, (List.forall_mem_cons.mpr ⟨r2, (fun _ q => nomatch q)⟩)⟩)⟩)
  obtain ⟨v27, h27, Q27, K27, z27, w27⟩ := w19.callI hx (y := (⟨"java/lang/String", "<init>", "([C)V"⟩ : MethodName)) (W := 1) rfl (hw _ (List.mem_of_getElem? (i := 28) rfl)) (hw _ (List.mem_of_getElem? (i := 29) rfl)) (hw _ (List.mem_of_getElem? (i := 30) rfl)) (by decide) (payNew hG w19.hZ hq_backV (hw _ (List.mem_of_getElem? (i := 2) rfl)) [c0, c1, c2] 3 (by omega) A17 D17_4 D17_5 F20 F25 rfl rfl (by decide) (by decide) r26 (by decide) (by decide)) rfl (by rw [hml]; rfl) [(.ref b17)] (lenOf pd_11 rfl) rfl (by show 2 * 0 + _ ≤ _; exact Nat.le_of_eq rfl) (hb hby dt3_102) (by decide) (by decide) (fun _ _ => safe0) (fun rv => (mkF m 105 #[.val (.ref a), .val (.int (3 : Int32)), .val (.ref b2)] (rv.toList ++ [(.ref b17)]))) (fun _ => rfl)
  obtain ⟨rfl, G27⟩ := Q27
  have K28 : Keep h0 h27 [] := K18.trans K27 (allS (Or.inr (by omega)) (fun _ q => nomatch q))
  have lt_b17 := G27.lt
  exact w27.endN (v := some (.ref b17)) (Q := (fun v h => ∃ x, v = some (.ref x) ∧ n0 ≤ x ∧ Str Z h x [c0, c1, c2] h.size)) (wr := []) (h0 := h0) (fun h => by rw [Bd.returns] at h; cases h) Bd.notSynchronized (fun X hr => X.areturnOut hx rfl Bd.returns rfl (hb hby dt3_105) hr) (by decide) (by decide) ⟨b17, rfl, by omega, G27.more (by omega)⟩ K28
theorem dt4_0 : decode method_3_code 0 = .ok (.iload_n 1, 1) := by decide +kernel
theorem dt4_1 : decode method_3_code 1 = .ok (.newarray .char, 2) := by decide +kernel
theorem dt4_3 : decode method_3_code 3 = .ok (.astore_n 2, 1) := by decide +kernel
theorem dt4_4 : decode method_3_code 4 = .ok (.iload_n 1, 1) := by decide +kernel
theorem dt4_5 : decode method_3_code 5 = .ok (.ifCond .le 9, 3) := by decide +kernel
theorem dt4_8 : decode method_3_code 8 = .ok (.aload_n 2, 1) := by decide +kernel
theorem dt4_9 : decode method_3_code 9 = .ok (.iconst 0, 1) := by decide +kernel
theorem dt4_10 : decode method_3_code 10 = .ok (.aload_n 0, 1) := by decide +kernel
theorem dt4_11 : decode method_3_code 11 = .ok (.iconst 0, 1) := by decide +kernel
theorem dt4_12 : decode method_3_code 12 = .ok (.caload, 1) := by decide +kernel
theorem dt4_13 : decode method_3_code 13 = .ok (.castore, 1) := by decide +kernel
theorem dt4_14 : decode method_3_code 14 = .ok (.iload_n 1, 1) := by decide +kernel
theorem dt4_15 : decode method_3_code 15 = .ok (.iconst 1, 1) := by decide +kernel
theorem dt4_16 : decode method_3_code 16 = .ok (.if_icmp .le 9, 3) := by decide +kernel
theorem dt4_19 : decode method_3_code 19 = .ok (.aload_n 2, 1) := by decide +kernel
theorem dt4_20 : decode method_3_code 20 = .ok (.iconst 1, 1) := by decide +kernel
theorem dt4_21 : decode method_3_code 21 = .ok (.aload_n 0, 1) := by decide +kernel
theorem dt4_22 : decode method_3_code 22 = .ok (.iconst 1, 1) := by decide +kernel
theorem dt4_23 : decode method_3_code 23 = .ok (.caload, 1) := by decide +kernel
theorem dt4_24 : decode method_3_code 24 = .ok (.castore, 1) := by decide +kernel
theorem dt4_25 : decode method_3_code 25 = .ok (.iload_n 1, 1) := by decide +kernel
theorem dt4_26 : decode method_3_code 26 = .ok (.iconst 2, 1) := by decide +kernel
theorem dt4_27 : decode method_3_code 27 = .ok (.if_icmp .le 9, 3) := by decide +kernel
theorem dt4_30 : decode method_3_code 30 = .ok (.aload_n 2, 1) := by decide +kernel
theorem dt4_31 : decode method_3_code 31 = .ok (.iconst 2, 1) := by decide +kernel
theorem dt4_32 : decode method_3_code 32 = .ok (.aload_n 0, 1) := by decide +kernel
theorem dt4_33 : decode method_3_code 33 = .ok (.iconst 2, 1) := by decide +kernel
theorem dt4_34 : decode method_3_code 34 = .ok (.caload, 1) := by decide +kernel
theorem dt4_35 : decode method_3_code 35 = .ok (.castore, 1) := by decide +kernel
theorem dt4_36 : decode method_3_code 36 = .ok (.iload_n 1, 1) := by decide +kernel
theorem dt4_37 : decode method_3_code 37 = .ok (.iconst 3, 1) := by decide +kernel
theorem dt4_38 : decode method_3_code 38 = .ok (.if_icmp .le 9, 3) := by decide +kernel
theorem dt4_41 : decode method_3_code 41 = .ok (.aload_n 2, 1) := by decide +kernel
theorem dt4_42 : decode method_3_code 42 = .ok (.iconst 3, 1) := by decide +kernel
theorem dt4_43 : decode method_3_code 43 = .ok (.aload_n 0, 1) := by decide +kernel
theorem dt4_44 : decode method_3_code 44 = .ok (.iconst 3, 1) := by decide +kernel
theorem dt4_45 : decode method_3_code 45 = .ok (.caload, 1) := by decide +kernel
theorem dt4_46 : decode method_3_code 46 = .ok (.castore, 1) := by decide +kernel
theorem dt4_47 : decode method_3_code 47 = .ok (.iload_n 1, 1) := by decide +kernel
theorem dt4_48 : decode method_3_code 48 = .ok (.iconst 4, 1) := by decide +kernel
theorem dt4_49 : decode method_3_code 49 = .ok (.if_icmp .le 9, 3) := by decide +kernel
theorem dt4_58 : decode method_3_code 58 = .ok (.iload_n 1, 1) := by decide +kernel
theorem dt4_59 : decode method_3_code 59 = .ok (.iconst 5, 1) := by decide +kernel
theorem dt4_60 : decode method_3_code 60 = .ok (.if_icmp .le 9, 3) := by decide +kernel
theorem dt4_69 : decode method_3_code 69 = .ok (.iload_n 1, 1) := by decide +kernel
theorem dt4_70 : decode method_3_code 70 = .ok (.bipush 6, 2) := by decide +kernel
theorem dt4_72 : decode method_3_code 72 = .ok (.if_icmp .le 11, 3) := by decide +kernel
theorem dt4_83 : decode method_3_code 83 = .ok (.iload_n 1, 1) := by decide +kernel
theorem dt4_84 : decode method_3_code 84 = .ok (.bipush 7, 2) := by decide +kernel
theorem dt4_86 : decode method_3_code 86 = .ok (.if_icmp .le 11, 3) := by decide +kernel
theorem dt4_97 : decode method_3_code 97 = .ok (.new 9, 3) := by decide +kernel
theorem dt4_100 : decode method_3_code 100 = .ok (.dup, 1) := by decide +kernel
theorem dt4_101 : decode method_3_code 101 = .ok (.aload_n 2, 1) := by decide +kernel
theorem dt4_102 : decode method_3_code 102 = .ok (.invokespecial 11, 3) := by decide +kernel
theorem dt4_105 : decode method_3_code 105 = .ok (.areturn, 1) := by decide +kernel
theorem eft4 (m : MethodId) (x0 : Nat) (x1 : Int32) : entryFrame m #[(.ref x0), (.int x1)] 3 = mkF m 0 #[.val (.ref x0), .val (.int x1), .unset] [] := by first | (simp [entryFrame, mkF, argsToLocals, Value.category, maxLocals]; done) | rfl
set_option maxRecDepth 65536 in
set_option maxHeartbeats 40000000 in
theorem rmt4 (l : Launch) (Z : State) (a0 : Array Value) (hw : ∀ d ∈ tables_1, d.before a0 Z = true) (a : Nat) (k : ClassId) (c0 c1 c2 c3 c4 c5 c6 c7 : Int32) (h0 : Heap) (n0 : Nat) (Z0 : n0 ≤ h0.size) (hG : SetsOk Z) (X0 : Old Z n0 h0) (V0 : Arv Z h0 a k .char (8 : Int32) [(.int c0), (.int c1), (.int c2), (.int c3), (.int c4), (.int c5), (.int c6), (.int c7)] (.int (0 : Int32))) (r0 : ¬ c0 < 0 ∧ ¬ (255 : Int32) < c0) (r1 : ¬ c1 < 0 ∧ ¬ (255 : Int32) < c1) (r2 : ¬ c2 < 0 ∧ ¬ (255 : Int32) < c2) (r3 : ¬ c3 < 0 ∧ ¬ (255 : Int32) < c3) (r4 : ¬ c4 < 0 ∧ ¬ (255 : Int32) < c4) (r5 : ¬ c5 < 0 ∧ ¬ (255 : Int32) < c5) (r6 : ¬ c6 < 0 ∧ ¬ (255 : Int32) < c6) (r7 : ¬ c7 < 0 ∧ ¬ (255 : Int32) < c7) :
    NMet l Z (⟨"com/example/bylaw/bylaw/TreePathParentPinLaw", "str", "([CI)Ljava/lang/String;"⟩ : MethodName) method_3_code 3 (some (.object "java/lang/String")) [] ({ frames := 4, cells := 3, slots := 12, locals := 66 } : Room) [(.ref a), (.int (4 : Int32))] h0 n0 [] (fun v h => ∃ x, v = some (.ref x) ∧ n0 ≤ x ∧ Str Z h x [c0, c1, c2, c3] h.size) := by
  refine MetFree.of_bodySF pn_15 hisR ?_
  intro p e s m args below meth c s₁ Bd hml0 hP hK
  obtain ⟨rfl, hZ, hh⟩ := hP
  have hx := Bd.exec
  have hby := Bd.bytes
  have hml : c.maxLocals = 3 := hml0
  have hnm := (name_of_methodNamed Bd.named Bd.method).1
  have w0 := Wk.start (a0 := a0) (EL := []) (n0 := n0) (nw := true) Bd hZ hh EW.nil chv0 (eft4 m a (4 : Int32)) ({ frames := 4, cells := 3, slots := 12, locals := 66 } : Room) rfl
  have K0 : Keep h0 h0 [] := Keep.refl _ _
  have lt_V0 := arlt V0
  have hq_backV : ∀ d ∈ StrChars.Road.words, d.before a0 Z = true := fun d hd => hw d ((by decide +kernel : ∀ d ∈ StrChars.Road.words, d ∈ tables_1) d hd)
  have w1 := w0.pure (mkF m 1 #[.val (.ref a), .val (.int (4 : Int32)), .unset] [(.int (4 : Int32))]) (fun X eT hZ hown k => by
      show Steps _ _ _ (State.setTop _ (mkF m 0 #[.val (.ref a), .val (.int (4 : Int32)), .unset] [])) _
      refine S.iloadN X.here hx (hb hby dt4_0) rfl ?_
      exact k)
  obtain ⟨b2, h2, k2, g2, E2, l2, A2, y2, w2⟩ := w1.newP hx (hw _ (List.mem_of_getElem? (i := 18) rfl)) rfl (hb hby dt4_1) rfl (by decide) 4 (by decide) (by decide) (by decide) (by decide) (fun xq => (mkF m 3 #[.val (.ref a), .val (.int (4 : Int32)), .unset] (.ref xq :: []))) (fun _ => rfl)
  have z2 := E2.1
  have K3 : Keep h0 h2 [] := K0.ext E2
  have V2 : Arv Z h2 b2 k2 .char (4 : Int32) [(.int (0 : Int32)), (.int (0 : Int32)), (.int (0 : Int32)), (.int (0 : Int32))] (.int (0 : Int32)) := A2.pad (pad_rep [] (.int (0 : Int32)) 4)
  have F4 := V0.ext E2
  have w5 := w2.pure (mkF m 13 #[.val (.ref a), .val (.int (4 : Int32)), .val (.ref b2)] [(.int c0), (.int (0 : Int32)), (.ref b2)]) (fun X eT hZ hown k => by
      show Steps _ _ _ (State.setTop _ (mkF m 3 #[.val (.ref a), .val (.int (4 : Int32)), .unset] [(.ref b2)])) _
      refine S.astoreN X.here hx (hb hby dt4_3) rfl #[.val (.ref a), .val (.int (4 : Int32)), .val (.ref b2)] rfl ?_
      refine S.iloadN X.here hx (hb hby dt4_4) rfl ?_
      refine S.ifNo X.here hx (hb hby dt4_5) (by decide) ?_
      refine S.aloadN X.here hx (hb hby dt4_8) rfl rfl ?_
      refine S.iconst X.here hx (0 : Int32) (hb hby dt4_9) rfl ?_
      refine S.aloadN X.here hx (hb hby dt4_10) rfl rfl ?_
      refine S.iconst X.here hx (0 : Int32) (hb hby dt4_11) rfl ?_
      refine caV X hx eT hZ F4 (v := (.int c0)) ⟨by decide, by decide⟩ rfl rfl rfl (hb hby dt4_12) ?_
      show Steps _ _ _ (State.setTop _ (mkF m 13 #[.val (.ref a), .val (.int (4 : Int32)), .val (.ref b2)] [(.int c0), (.int (0 : Int32)), (.ref b2)])) _
      exact k)
  obtain ⟨h6, W6, z6, V6, w6⟩ := w5.stC hx V2 0 rfl (Nat.le_of_ble_eq_true rfl) ⟨by decide, by decide⟩ rfl rfl (hb hby dt4_13) (by omega) (mkF m 14 #[.val (.ref a), .val (.int (4 : Int32)), .val (.ref b2)] []) rfl
  rw [nar_rng r0] at V6
  have U6 : Arv Z h6 b2 k2 .char (4 : Int32) [(.int c0), (.int (0 : Int32)), (.int (0 : Int32)), (.int (0 : Int32))] (.int (0 : Int32)) := V6
  have K7 : Keep h0 h6 [] := K3.wr W6 (Or.inr (by omega))
  have F8 := F4.other W6 (nne (by omega))
  have w9 := w6.pure (mkF m 24 #[.val (.ref a), .val (.int (4 : Int32)), .val (.ref b2)] [(.int c1), (.int (1 : Int32)), (.ref b2)]) (fun X eT hZ hown k => by
      show Steps _ _ _ (State.setTop _ (mkF m 14 #[.val (.ref a), .val (.int (4 : Int32)), .val (.ref b2)] [])) _
      refine S.iloadN X.here hx (hb hby dt4_14) rfl ?_
      refine S.iconst X.here hx (1 : Int32) (hb hby dt4_15) rfl ?_
      refine S.icmpNo X.here hx (hb hby dt4_16) (by decide) ?_
      refine S.aloadN X.here hx (hb hby dt4_19) rfl rfl ?_
      refine S.iconst X.here hx (1 : Int32) (hb hby dt4_20) rfl ?_
      refine S.aloadN X.here hx (hb hby dt4_21) rfl rfl ?_
      refine S.iconst X.here hx (1 : Int32) (hb hby dt4_22) rfl ?_
      refine caV X hx eT hZ F8 (v := (.int c1)) ⟨by decide, by decide⟩ rfl rfl rfl (hb hby dt4_23) ?_
      show Steps _ _ _ (State.setTop _ (mkF m 24 #[.val (.ref a), .val (.int (4 : Int32)), .val (.ref b2)] [(.int c1), (.int (1 : Int32)), (.ref b2)])) _
      exact k)
  obtain ⟨h10, W10, z10, V10, w10⟩ := w9.stC hx U6 1 rfl (Nat.le_of_ble_eq_true rfl) ⟨by decide, by decide⟩ rfl rfl (hb hby dt4_24) (by omega) (mkF m 25 #[.val (.ref a), .val (.int (4 : Int32)), .val (.ref b2)] []) rfl
  rw [nar_rng r1] at V10
  have U10 : Arv Z h10 b2 k2 .char (4 : Int32) [(.int c0), (.int c1), (.int (0 : Int32)), (.int (0 : Int32))] (.int (0 : Int32)) := V10
  have K11 : Keep h0 h10 [] := K7.wr W10 (Or.inr (by omega))
  have F12 := F8.other W10 (nne (by omega))
  have w13 := w10.pure (mkF m 35 #[.val (.ref a), .val (.int (4 : Int32)), .val (.ref b2)] [(.int c2), (.int (2 : Int32)), (.ref b2)]) (fun X eT hZ hown k => by
      show Steps _ _ _ (State.setTop _ (mkF m 25 #[.val (.ref a), .val (.int (4 : Int32)), .val (.ref b2)] [])) _
      refine S.iloadN X.here hx (hb hby dt4_25) rfl ?_
      refine S.iconst X.here hx (2 : Int32) (hb hby dt4_26) rfl ?_
      refine S.icmpNo X.here hx (hb hby dt4_27) (by decide) ?_
      refine S.aloadN X.here hx (hb hby dt4_30) rfl rfl ?_
      refine S.iconst X.here hx (2 : Int32) (hb hby dt4_31) rfl ?_
      refine S.aloadN X.here hx (hb hby dt4_32) rfl rfl ?_
      refine S.iconst X.here hx (2 : Int32) (hb hby dt4_33) rfl ?_
      refine caV X hx eT hZ F12 (v := (.int c2)) ⟨by decide, by decide⟩ rfl rfl rfl (hb hby dt4_34) ?_
      show Steps _ _ _ (State.setTop _ (mkF m 35 #[.val (.ref a), .val (.int (4 : Int32)), .val (.ref b2)] [(.int c2), (.int (2 : Int32)), (.ref b2)])) _
      exact k)
  obtain ⟨h14, W14, z14, V14, w14⟩ := w13.stC hx U10 2 rfl (Nat.le_of_ble_eq_true rfl) ⟨by decide, by decide⟩ rfl rfl (hb hby dt4_35) (by omega) (mkF m 36 #[.val (.ref a), .val (.int (4 : Int32)), .val (.ref b2)] []) rfl
  rw [nar_rng r2] at V14
  have U14 : Arv Z h14 b2 k2 .char (4 : Int32) [(.int c0), (.int c1), (.int c2), (.int (0 : Int32))] (.int (0 : Int32)) := V14
  have K15 : Keep h0 h14 [] := K11.wr W14 (Or.inr (by omega))
  have F16 := F12.other W14 (nne (by omega))
  have w17 := w14.pure (mkF m 46 #[.val (.ref a), .val (.int (4 : Int32)), .val (.ref b2)] [(.int c3), (.int (3 : Int32)), (.ref b2)]) (fun X eT hZ hown k => by
      show Steps _ _ _ (State.setTop _ (mkF m 36 #[.val (.ref a), .val (.int (4 : Int32)), .val (.ref b2)] [])) _
      refine S.iloadN X.here hx (hb hby dt4_36) rfl ?_
      refine S.iconst X.here hx (3 : Int32) (hb hby dt4_37) rfl ?_
      refine S.icmpNo X.here hx (hb hby dt4_38) (by decide) ?_
      refine S.aloadN X.here hx (hb hby dt4_41) rfl rfl ?_
      refine S.iconst X.here hx (3 : Int32) (hb hby dt4_42) rfl ?_
      refine S.aloadN X.here hx (hb hby dt4_43) rfl rfl ?_
      refine S.iconst X.here hx (3 : Int32) (hb hby dt4_44) rfl ?_
      refine caV X hx eT hZ F16 (v := (.int c3)) ⟨by decide, by decide⟩ rfl rfl rfl (hb hby dt4_45) ?_
      show Steps _ _ _ (State.setTop _ (mkF m 46 #[.val (.ref a), .val (.int (4 : Int32)), .val (.ref b2)] [(.int c3), (.int (3 : Int32)), (.ref b2)])) _
      exact k)
  obtain ⟨h18, W18, z18, V18, w18⟩ := w17.stC hx U14 3 rfl (Nat.le_of_ble_eq_true rfl) ⟨by decide, by decide⟩ rfl rfl (hb hby dt4_46) (by omega) (mkF m 47 #[.val (.ref a), .val (.int (4 : Int32)), .val (.ref b2)] []) rfl
  rw [nar_rng r3] at V18
  have U18 : Arv Z h18 b2 k2 .char (4 : Int32) [(.int c0), (.int c1), (.int c2), (.int c3)] (.int (0 : Int32)) := V18
  have K19 : Keep h0 h18 [] := K15.wr W18 (Or.inr (by omega))
  have w20 := w18.pure (mkF m 97 #[.val (.ref a), .val (.int (4 : Int32)), .val (.ref b2)] []) (fun X eT hZ hown k => by
      show Steps _ _ _ (State.setTop _ (mkF m 47 #[.val (.ref a), .val (.int (4 : Int32)), .val (.ref b2)] [])) _
      refine S.iloadN X.here hx (hb hby dt4_47) rfl ?_
      refine S.iconst X.here hx (4 : Int32) (hb hby dt4_48) rfl ?_
      refine S.icmpYes X.here hx 58 (hb hby dt4_49) (by decide) (by decide) (by decide) ?_
      refine S.iloadN X.here hx (hb hby dt4_58) rfl ?_
      refine S.iconst X.here hx (5 : Int32) (hb hby dt4_59) rfl ?_
      refine S.icmpYes X.here hx 69 (hb hby dt4_60) (by decide) (by decide) (by decide) ?_
      refine S.iloadN X.here hx (hb hby dt4_69) rfl ?_
      refine S.bipush X.here hx (6 : Int32) (hb hby dt4_70) rfl ?_
      refine S.icmpYes X.here hx 83 (hb hby dt4_72) (by decide) (by decide) (by decide) ?_
      refine S.iloadN X.here hx (hb hby dt4_83) rfl ?_
      refine S.bipush X.here hx (7 : Int32) (hb hby dt4_84) rfl ?_
      refine S.icmpYes X.here hx 97 (hb hby dt4_86) (by decide) (by decide) (by decide) ?_
      exact k)
  obtain ⟨b21, h21, g21, E21, l21, A21, D21, y21, w21⟩ := w20.newO hx (hw _ (List.mem_of_getElem? (i := 27) rfl)) (hw _ (List.mem_of_getElem? (i := 2) rfl)) (hw _ (List.mem_of_getElem? (i := 1) rfl)) rfl (hb hby dt4_97) (by decide) (by decide) (fun xq => (mkF m 100 #[.val (.ref a), .val (.int (4 : Int32)), .val (.ref b2)] (.ref xq :: []))) (fun _ => rfl)
  have z21 := E21.1
  have K22 : Keep h0 h21 [] := K19.ext E21
  have D21_4 : Fld Z h21 b21 "java/lang/String" "value" "[B" .null := D21 (Or.inr (hw _ (List.mem_of_getElem? (i := 4) rfl))) (ty := (.array .byte)) (by decide)
  have D21_5 : Fld Z h21 b21 "java/lang/String" "coder" "B" (.int (0 : Int32)) := D21 (Or.inr (hw _ (List.mem_of_getElem? (i := 5) rfl))) (ty := .byte) (by decide)
  have w23 := w21.pure (mkF m 102 #[.val (.ref a), .val (.int (4 : Int32)), .val (.ref b2)] [(.ref b2), (.ref b21), (.ref b21)]) (fun X eT hZ hown k => by
      show Steps _ _ _ (State.setTop _ (mkF m 100 #[.val (.ref a), .val (.int (4 : Int32)), .val (.ref b2)] [(.ref b21)])) _
      refine S.dup X.here hx (hb hby dt4_100) rfl ?_
      refine S.aloadN X.here hx (hb hby dt4_101) rfl rfl ?_
      exact k)
  have F24 := U18.ext E21
  have F25 := X0.ext E2
  have F26 := F25.wr W6 (by omega)
  have F27 := F26.wr W10 (by omega)
  have F28 := F27.wr W14 (by omega)
  have F29 := F28.wr W18 (by omega)
  have F30 := F29.ext E21
  have r31 : ∀ c ∈ ([c0, c1, c2, c3] : List Int32), ¬ c < 0 ∧ ¬ (255 : Int32) < c := (List.forall_mem_cons.mpr ⟨r0, (List.forall_mem_cons.mpr ⟨r1, (List.forall_mem_cons.mpr ⟨r2, (List.forall_mem_cons.mpr ⟨r3, (fun _ q => nomatch q)⟩)⟩)⟩)⟩)
  obtain ⟨v32, h32, Q32, K32, z32, w32⟩ := w23.callI hx (y := (⟨"java/lang/String", "<init>", "([C)V"⟩ : MethodName)) (W := 1) rfl (hw _ (List.mem_of_getElem? (i := 28) rfl)) (hw _ (List.mem_of_getElem? (i := 29) rfl)) (hw _ (List.mem_of_getElem? (i := 30) rfl)) (by decide) (payNew hG w23.hZ hq_backV (hw _ (List.mem_of_getElem? (i := 2) rfl)) [c0, c1, c2, c3] 4 (by omega) A21 D21_4 D21_5 F24 F30 rfl rfl (by decide) (by decide) r31 (by decide) (by decide)) rfl (by rw [hml]; rfl) [(.ref b21)] (lenOf pd_11 rfl) rfl (by show 2 * 0 + _ ≤ _; exact Nat.le_of_eq rfl) (hb hby dt4_102) (by decide) (by decide) (fun _ _ => safe0) (fun rv => (mkF m 105 #[.val (.ref a), .val (.int (4 : Int32)), .val (.ref b2)] (rv.toList ++ [(.ref b21)]))) (fun _ => rfl)
  obtain ⟨rfl, G32⟩ := Q32
  have K33 : Keep h0 h32 [] := K22.trans K32 (allS (Or.inr (by omega)) (fun _ q => nomatch q))
  have lt_b21 := G32.lt
  exact w32.endN (v := some (.ref b21)) (Q := (fun v h => ∃ x, v = some (.ref x) ∧ n0 ≤ x ∧ Str Z h x [c0, c1, c2, c3] h.size)) (wr := []) (h0 := h0) (fun h => by rw [Bd.returns] at h; cases h) Bd.notSynchronized (fun X hr => X.areturnOut hx rfl Bd.returns rfl (hb hby dt4_105) hr) (by decide) (by decide) ⟨b21, rfl, by omega, G32.more (by omega)⟩ K33
theorem dt5_0 : decode method_3_code 0 = .ok (.iload_n 1, 1) := by decide +kernel
theorem dt5_1 : decode method_3_code 1 = .ok (.newarray .char, 2) := by decide +kernel
theorem dt5_3 : decode method_3_code 3 = .ok (.astore_n 2, 1) := by decide +kernel
theorem dt5_4 : decode method_3_code 4 = .ok (.iload_n 1, 1) := by decide +kernel
theorem dt5_5 : decode method_3_code 5 = .ok (.ifCond .le 9, 3) := by decide +kernel
theorem dt5_8 : decode method_3_code 8 = .ok (.aload_n 2, 1) := by decide +kernel
theorem dt5_9 : decode method_3_code 9 = .ok (.iconst 0, 1) := by decide +kernel
theorem dt5_10 : decode method_3_code 10 = .ok (.aload_n 0, 1) := by decide +kernel
theorem dt5_11 : decode method_3_code 11 = .ok (.iconst 0, 1) := by decide +kernel
theorem dt5_12 : decode method_3_code 12 = .ok (.caload, 1) := by decide +kernel
theorem dt5_13 : decode method_3_code 13 = .ok (.castore, 1) := by decide +kernel
theorem dt5_14 : decode method_3_code 14 = .ok (.iload_n 1, 1) := by decide +kernel
theorem dt5_15 : decode method_3_code 15 = .ok (.iconst 1, 1) := by decide +kernel
theorem dt5_16 : decode method_3_code 16 = .ok (.if_icmp .le 9, 3) := by decide +kernel
theorem dt5_19 : decode method_3_code 19 = .ok (.aload_n 2, 1) := by decide +kernel
theorem dt5_20 : decode method_3_code 20 = .ok (.iconst 1, 1) := by decide +kernel
theorem dt5_21 : decode method_3_code 21 = .ok (.aload_n 0, 1) := by decide +kernel
theorem dt5_22 : decode method_3_code 22 = .ok (.iconst 1, 1) := by decide +kernel
theorem dt5_23 : decode method_3_code 23 = .ok (.caload, 1) := by decide +kernel
theorem dt5_24 : decode method_3_code 24 = .ok (.castore, 1) := by decide +kernel
theorem dt5_25 : decode method_3_code 25 = .ok (.iload_n 1, 1) := by decide +kernel
theorem dt5_26 : decode method_3_code 26 = .ok (.iconst 2, 1) := by decide +kernel
theorem dt5_27 : decode method_3_code 27 = .ok (.if_icmp .le 9, 3) := by decide +kernel
theorem dt5_30 : decode method_3_code 30 = .ok (.aload_n 2, 1) := by decide +kernel
theorem dt5_31 : decode method_3_code 31 = .ok (.iconst 2, 1) := by decide +kernel
theorem dt5_32 : decode method_3_code 32 = .ok (.aload_n 0, 1) := by decide +kernel
theorem dt5_33 : decode method_3_code 33 = .ok (.iconst 2, 1) := by decide +kernel
theorem dt5_34 : decode method_3_code 34 = .ok (.caload, 1) := by decide +kernel
theorem dt5_35 : decode method_3_code 35 = .ok (.castore, 1) := by decide +kernel
theorem dt5_36 : decode method_3_code 36 = .ok (.iload_n 1, 1) := by decide +kernel
theorem dt5_37 : decode method_3_code 37 = .ok (.iconst 3, 1) := by decide +kernel
theorem dt5_38 : decode method_3_code 38 = .ok (.if_icmp .le 9, 3) := by decide +kernel
theorem dt5_41 : decode method_3_code 41 = .ok (.aload_n 2, 1) := by decide +kernel
theorem dt5_42 : decode method_3_code 42 = .ok (.iconst 3, 1) := by decide +kernel
theorem dt5_43 : decode method_3_code 43 = .ok (.aload_n 0, 1) := by decide +kernel
theorem dt5_44 : decode method_3_code 44 = .ok (.iconst 3, 1) := by decide +kernel
theorem dt5_45 : decode method_3_code 45 = .ok (.caload, 1) := by decide +kernel
theorem dt5_46 : decode method_3_code 46 = .ok (.castore, 1) := by decide +kernel
theorem dt5_47 : decode method_3_code 47 = .ok (.iload_n 1, 1) := by decide +kernel
theorem dt5_48 : decode method_3_code 48 = .ok (.iconst 4, 1) := by decide +kernel
theorem dt5_49 : decode method_3_code 49 = .ok (.if_icmp .le 9, 3) := by decide +kernel
theorem dt5_52 : decode method_3_code 52 = .ok (.aload_n 2, 1) := by decide +kernel
theorem dt5_53 : decode method_3_code 53 = .ok (.iconst 4, 1) := by decide +kernel
theorem dt5_54 : decode method_3_code 54 = .ok (.aload_n 0, 1) := by decide +kernel
theorem dt5_55 : decode method_3_code 55 = .ok (.iconst 4, 1) := by decide +kernel
theorem dt5_56 : decode method_3_code 56 = .ok (.caload, 1) := by decide +kernel
theorem dt5_57 : decode method_3_code 57 = .ok (.castore, 1) := by decide +kernel
theorem dt5_58 : decode method_3_code 58 = .ok (.iload_n 1, 1) := by decide +kernel
theorem dt5_59 : decode method_3_code 59 = .ok (.iconst 5, 1) := by decide +kernel
theorem dt5_60 : decode method_3_code 60 = .ok (.if_icmp .le 9, 3) := by decide +kernel
theorem dt5_69 : decode method_3_code 69 = .ok (.iload_n 1, 1) := by decide +kernel
theorem dt5_70 : decode method_3_code 70 = .ok (.bipush 6, 2) := by decide +kernel
theorem dt5_72 : decode method_3_code 72 = .ok (.if_icmp .le 11, 3) := by decide +kernel
theorem dt5_83 : decode method_3_code 83 = .ok (.iload_n 1, 1) := by decide +kernel
theorem dt5_84 : decode method_3_code 84 = .ok (.bipush 7, 2) := by decide +kernel
theorem dt5_86 : decode method_3_code 86 = .ok (.if_icmp .le 11, 3) := by decide +kernel
theorem dt5_97 : decode method_3_code 97 = .ok (.new 9, 3) := by decide +kernel
theorem dt5_100 : decode method_3_code 100 = .ok (.dup, 1) := by decide +kernel
theorem dt5_101 : decode method_3_code 101 = .ok (.aload_n 2, 1) := by decide +kernel
theorem dt5_102 : decode method_3_code 102 = .ok (.invokespecial 11, 3) := by decide +kernel
theorem dt5_105 : decode method_3_code 105 = .ok (.areturn, 1) := by decide +kernel
theorem eft5 (m : MethodId) (x0 : Nat) (x1 : Int32) : entryFrame m #[(.ref x0), (.int x1)] 3 = mkF m 0 #[.val (.ref x0), .val (.int x1), .unset] [] := by first | (simp [entryFrame, mkF, argsToLocals, Value.category, maxLocals]; done) | rfl
set_option maxRecDepth 65536 in
set_option maxHeartbeats 40000000 in
theorem rmt5 (l : Launch) (Z : State) (a0 : Array Value) (hw : ∀ d ∈ tables_1, d.before a0 Z = true) (a : Nat) (k : ClassId) (c0 c1 c2 c3 c4 c5 c6 c7 : Int32) (h0 : Heap) (n0 : Nat) (Z0 : n0 ≤ h0.size) (hG : SetsOk Z) (X0 : Old Z n0 h0) (V0 : Arv Z h0 a k .char (8 : Int32) [(.int c0), (.int c1), (.int c2), (.int c3), (.int c4), (.int c5), (.int c6), (.int c7)] (.int (0 : Int32))) (r0 : ¬ c0 < 0 ∧ ¬ (255 : Int32) < c0) (r1 : ¬ c1 < 0 ∧ ¬ (255 : Int32) < c1) (r2 : ¬ c2 < 0 ∧ ¬ (255 : Int32) < c2) (r3 : ¬ c3 < 0 ∧ ¬ (255 : Int32) < c3) (r4 : ¬ c4 < 0 ∧ ¬ (255 : Int32) < c4) (r5 : ¬ c5 < 0 ∧ ¬ (255 : Int32) < c5) (r6 : ¬ c6 < 0 ∧ ¬ (255 : Int32) < c6) (r7 : ¬ c7 < 0 ∧ ¬ (255 : Int32) < c7) :
    NMet l Z (⟨"com/example/bylaw/bylaw/TreePathParentPinLaw", "str", "([CI)Ljava/lang/String;"⟩ : MethodName) method_3_code 3 (some (.object "java/lang/String")) [] ({ frames := 4, cells := 3, slots := 14, locals := 66 } : Room) [(.ref a), (.int (5 : Int32))] h0 n0 [] (fun v h => ∃ x, v = some (.ref x) ∧ n0 ≤ x ∧ Str Z h x [c0, c1, c2, c3, c4] h.size) := by
  refine MetFree.of_bodySF pn_15 hisR ?_
  intro p e s m args below meth c s₁ Bd hml0 hP hK
  obtain ⟨rfl, hZ, hh⟩ := hP
  have hx := Bd.exec
  have hby := Bd.bytes
  have hml : c.maxLocals = 3 := hml0
  have hnm := (name_of_methodNamed Bd.named Bd.method).1
  have w0 := Wk.start (a0 := a0) (EL := []) (n0 := n0) (nw := true) Bd hZ hh EW.nil chv0 (eft5 m a (5 : Int32)) ({ frames := 4, cells := 3, slots := 14, locals := 66 } : Room) rfl
  have K0 : Keep h0 h0 [] := Keep.refl _ _
  have lt_V0 := arlt V0
  have hq_backV : ∀ d ∈ StrChars.Road.words, d.before a0 Z = true := fun d hd => hw d ((by decide +kernel : ∀ d ∈ StrChars.Road.words, d ∈ tables_1) d hd)
  have w1 := w0.pure (mkF m 1 #[.val (.ref a), .val (.int (5 : Int32)), .unset] [(.int (5 : Int32))]) (fun X eT hZ hown k => by
      show Steps _ _ _ (State.setTop _ (mkF m 0 #[.val (.ref a), .val (.int (5 : Int32)), .unset] [])) _
      refine S.iloadN X.here hx (hb hby dt5_0) rfl ?_
      exact k)
  obtain ⟨b2, h2, k2, g2, E2, l2, A2, y2, w2⟩ := w1.newP hx (hw _ (List.mem_of_getElem? (i := 18) rfl)) rfl (hb hby dt5_1) rfl (by decide) 5 (by decide) (by decide) (by decide) (by decide) (fun xq => (mkF m 3 #[.val (.ref a), .val (.int (5 : Int32)), .unset] (.ref xq :: []))) (fun _ => rfl)
  have z2 := E2.1
  have K3 : Keep h0 h2 [] := K0.ext E2
  have V2 : Arv Z h2 b2 k2 .char (5 : Int32) [(.int (0 : Int32)), (.int (0 : Int32)), (.int (0 : Int32)), (.int (0 : Int32)), (.int (0 : Int32))] (.int (0 : Int32)) := A2.pad (pad_rep [] (.int (0 : Int32)) 5)
  have F4 := V0.ext E2
  have w5 := w2.pure (mkF m 13 #[.val (.ref a), .val (.int (5 : Int32)), .val (.ref b2)] [(.int c0), (.int (0 : Int32)), (.ref b2)]) (fun X eT hZ hown k => by
      show Steps _ _ _ (State.setTop _ (mkF m 3 #[.val (.ref a), .val (.int (5 : Int32)), .unset] [(.ref b2)])) _
      refine S.astoreN X.here hx (hb hby dt5_3) rfl #[.val (.ref a), .val (.int (5 : Int32)), .val (.ref b2)] rfl ?_
      refine S.iloadN X.here hx (hb hby dt5_4) rfl ?_
      refine S.ifNo X.here hx (hb hby dt5_5) (by decide) ?_
      refine S.aloadN X.here hx (hb hby dt5_8) rfl rfl ?_
      refine S.iconst X.here hx (0 : Int32) (hb hby dt5_9) rfl ?_
      refine S.aloadN X.here hx (hb hby dt5_10) rfl rfl ?_
      refine S.iconst X.here hx (0 : Int32) (hb hby dt5_11) rfl ?_
      refine caV X hx eT hZ F4 (v := (.int c0)) ⟨by decide, by decide⟩ rfl rfl rfl (hb hby dt5_12) ?_
      show Steps _ _ _ (State.setTop _ (mkF m 13 #[.val (.ref a), .val (.int (5 : Int32)), .val (.ref b2)] [(.int c0), (.int (0 : Int32)), (.ref b2)])) _
      exact k)
  obtain ⟨h6, W6, z6, V6, w6⟩ := w5.stC hx V2 0 rfl (Nat.le_of_ble_eq_true rfl) ⟨by decide, by decide⟩ rfl rfl (hb hby dt5_13) (by omega) (mkF m 14 #[.val (.ref a), .val (.int (5 : Int32)), .val (.ref b2)] []) rfl
  rw [nar_rng r0] at V6
  have U6 : Arv Z h6 b2 k2 .char (5 : Int32) [(.int c0), (.int (0 : Int32)), (.int (0 : Int32)), (.int (0 : Int32)), (.int (0 : Int32))] (.int (0 : Int32)) := V6
  have K7 : Keep h0 h6 [] := K3.wr W6 (Or.inr (by omega))
  have F8 := F4.other W6 (nne (by omega))
  have w9 := w6.pure (mkF m 24 #[.val (.ref a), .val (.int (5 : Int32)), .val (.ref b2)] [(.int c1), (.int (1 : Int32)), (.ref b2)]) (fun X eT hZ hown k => by
      show Steps _ _ _ (State.setTop _ (mkF m 14 #[.val (.ref a), .val (.int (5 : Int32)), .val (.ref b2)] [])) _
      refine S.iloadN X.here hx (hb hby dt5_14) rfl ?_
      refine S.iconst X.here hx (1 : Int32) (hb hby dt5_15) rfl ?_
      refine S.icmpNo X.here hx (hb hby dt5_16) (by decide) ?_
      refine S.aloadN X.here hx (hb hby dt5_19) rfl rfl ?_
      refine S.iconst X.here hx (1 : Int32) (hb hby dt5_20) rfl ?_
      refine S.aloadN X.here hx (hb hby dt5_21) rfl rfl ?_
      refine S.iconst X.here hx (1 : Int32) (hb hby dt5_22) rfl ?_
      refine caV X hx eT hZ F8 (v := (.int c1)) ⟨by decide, by decide⟩ rfl rfl rfl (hb hby dt5_23) ?_
      show Steps _ _ _ (State.setTop _ (mkF m 24 #[.val (.ref a), .val (.int (5 : Int32)), .val (.ref b2)] [(.int c1), (.int (1 : Int32)), (.ref b2)])) _
      exact k)
  obtain ⟨h10, W10, z10, V10, w10⟩ := w9.stC hx U6 1 rfl (Nat.le_of_ble_eq_true rfl) ⟨by decide, by decide⟩ rfl rfl (hb hby dt5_24) (by omega) (mkF m 25 #[.val (.ref a), .val (.int (5 : Int32)), .val (.ref b2)] []) rfl
  rw [nar_rng r1] at V10
  have U10 : Arv Z h10 b2 k2 .char (5 : Int32) [(.int c0), (.int c1), (.int (0 : Int32)), (.int (0 : Int32)), (.int (0 : Int32))] (.int (0 : Int32)) := V10
  have K11 : Keep h0 h10 [] := K7.wr W10 (Or.inr (by omega))
  have F12 := F8.other W10 (nne (by omega))
  have w13 := w10.pure (mkF m 35 #[.val (.ref a), .val (.int (5 : Int32)), .val (.ref b2)] [(.int c2), (.int (2 : Int32)), (.ref b2)]) (fun X eT hZ hown k => by
      show Steps _ _ _ (State.setTop _ (mkF m 25 #[.val (.ref a), .val (.int (5 : Int32)), .val (.ref b2)] [])) _
      refine S.iloadN X.here hx (hb hby dt5_25) rfl ?_
      refine S.iconst X.here hx (2 : Int32) (hb hby dt5_26) rfl ?_
      refine S.icmpNo X.here hx (hb hby dt5_27) (by decide) ?_
      refine S.aloadN X.here hx (hb hby dt5_30) rfl rfl ?_
      refine S.iconst X.here hx (2 : Int32) (hb hby dt5_31) rfl ?_
      refine S.aloadN X.here hx (hb hby dt5_32) rfl rfl ?_
      refine S.iconst X.here hx (2 : Int32) (hb hby dt5_33) rfl ?_
      refine caV X hx eT hZ F12 (v := (.int c2)) ⟨by decide, by decide⟩ rfl rfl rfl (hb hby dt5_34) ?_
      show Steps _ _ _ (State.setTop _ (mkF m 35 #[.val (.ref a), .val (.int (5 : Int32)), .val (.ref b2)] [(.int c2), (.int (2 : Int32)), (.ref b2)])) _
      exact k)
  obtain ⟨h14, W14, z14, V14, w14⟩ := w13.stC hx U10 2 rfl (Nat.le_of_ble_eq_true rfl) ⟨by decide, by decide⟩ rfl rfl (hb hby dt5_35) (by omega) (mkF m 36 #[.val (.ref a), .val (.int (5 : Int32)), .val (.ref b2)] []) rfl
  rw [nar_rng r2] at V14
  have U14 : Arv Z h14 b2 k2 .char (5 : Int32) [(.int c0), (.int c1), (.int c2), (.int (0 : Int32)), (.int (0 : Int32))] (.int (0 : Int32)) := V14
  have K15 : Keep h0 h14 [] := K11.wr W14 (Or.inr (by omega))
  have F16 := F12.other W14 (nne (by omega))
  have w17 := w14.pure (mkF m 46 #[.val (.ref a), .val (.int (5 : Int32)), .val (.ref b2)] [(.int c3), (.int (3 : Int32)), (.ref b2)]) (fun X eT hZ hown k => by
      show Steps _ _ _ (State.setTop _ (mkF m 36 #[.val (.ref a), .val (.int (5 : Int32)), .val (.ref b2)] [])) _
      refine S.iloadN X.here hx (hb hby dt5_36) rfl ?_
      refine S.iconst X.here hx (3 : Int32) (hb hby dt5_37) rfl ?_
      refine S.icmpNo X.here hx (hb hby dt5_38) (by decide) ?_
      refine S.aloadN X.here hx (hb hby dt5_41) rfl rfl ?_
      refine S.iconst X.here hx (3 : Int32) (hb hby dt5_42) rfl ?_
      refine S.aloadN X.here hx (hb hby dt5_43) rfl rfl ?_
      refine S.iconst X.here hx (3 : Int32) (hb hby dt5_44) rfl ?_
      refine caV X hx eT hZ F16 (v := (.int c3)) ⟨by decide, by decide⟩ rfl rfl rfl (hb hby dt5_45) ?_
      show Steps _ _ _ (State.setTop _ (mkF m 46 #[.val (.ref a), .val (.int (5 : Int32)), .val (.ref b2)] [(.int c3), (.int (3 : Int32)), (.ref b2)])) _
      exact k)
  obtain ⟨h18, W18, z18, V18, w18⟩ := w17.stC hx U14 3 rfl (Nat.le_of_ble_eq_true rfl) ⟨by decide, by decide⟩ rfl rfl (hb hby dt5_46) (by omega) (mkF m 47 #[.val (.ref a), .val (.int (5 : Int32)), .val (.ref b2)] []) rfl
  rw [nar_rng r3] at V18
  have U18 : Arv Z h18 b2 k2 .char (5 : Int32) [(.int c0), (.int c1), (.int c2), (.int c3), (.int (0 : Int32))] (.int (0 : Int32)) := V18
  have K19 : Keep h0 h18 [] := K15.wr W18 (Or.inr (by omega))
  have F20 := F16.other W18 (nne (by omega))
  have w21 := w18.pure (mkF m 57 #[.val (.ref a), .val (.int (5 : Int32)), .val (.ref b2)] [(.int c4), (.int (4 : Int32)), (.ref b2)]) (fun X eT hZ hown k => by
      show Steps _ _ _ (State.setTop _ (mkF m 47 #[.val (.ref a), .val (.int (5 : Int32)), .val (.ref b2)] [])) _
      refine S.iloadN X.here hx (hb hby dt5_47) rfl ?_
      refine S.iconst X.here hx (4 : Int32) (hb hby dt5_48) rfl ?_
      refine S.icmpNo X.here hx (hb hby dt5_49) (by decide) ?_
      refine S.aloadN X.here hx (hb hby dt5_52) rfl rfl ?_
      refine S.iconst X.here hx (4 : Int32) (hb hby dt5_53) rfl ?_
      refine S.aloadN X.here hx (hb hby dt5_54) rfl rfl ?_
      refine S.iconst X.here hx (4 : Int32) (hb hby dt5_55) rfl ?_
      refine caV X hx eT hZ F20 (v := (.int c4)) ⟨by decide, by decide⟩ rfl rfl rfl (hb hby dt5_56) ?_
      show Steps _ _ _ (State.setTop _ (mkF m 57 #[.val (.ref a), .val (.int (5 : Int32)), .val (.ref b2)] [(.int c4), (.int (4 : Int32)), (.ref b2)])) _
      exact k)
  obtain ⟨h22, W22, z22, V22, w22⟩ := w21.stC hx U18 4 rfl (Nat.le_of_ble_eq_true rfl) ⟨by decide, by decide⟩ rfl rfl (hb hby dt5_57) (by omega) (mkF m 58 #[.val (.ref a), .val (.int (5 : Int32)), .val (.ref b2)] []) rfl
  rw [nar_rng r4] at V22
  have U22 : Arv Z h22 b2 k2 .char (5 : Int32) [(.int c0), (.int c1), (.int c2), (.int c3), (.int c4)] (.int (0 : Int32)) := V22
  have K23 : Keep h0 h22 [] := K19.wr W22 (Or.inr (by omega))
  have w24 := w22.pure (mkF m 97 #[.val (.ref a), .val (.int (5 : Int32)), .val (.ref b2)] []) (fun X eT hZ hown k => by
      show Steps _ _ _ (State.setTop _ (mkF m 58 #[.val (.ref a), .val (.int (5 : Int32)), .val (.ref b2)] [])) _
      refine S.iloadN X.here hx (hb hby dt5_58) rfl ?_
      refine S.iconst X.here hx (5 : Int32) (hb hby dt5_59) rfl ?_
      refine S.icmpYes X.here hx 69 (hb hby dt5_60) (by decide) (by decide) (by decide) ?_
      refine S.iloadN X.here hx (hb hby dt5_69) rfl ?_
      refine S.bipush X.here hx (6 : Int32) (hb hby dt5_70) rfl ?_
      refine S.icmpYes X.here hx 83 (hb hby dt5_72) (by decide) (by decide) (by decide) ?_
      refine S.iloadN X.here hx (hb hby dt5_83) rfl ?_
      refine S.bipush X.here hx (7 : Int32) (hb hby dt5_84) rfl ?_
      refine S.icmpYes X.here hx 97 (hb hby dt5_86) (by decide) (by decide) (by decide) ?_
      exact k)
  obtain ⟨b25, h25, g25, E25, l25, A25, D25, y25, w25⟩ := w24.newO hx (hw _ (List.mem_of_getElem? (i := 27) rfl)) (hw _ (List.mem_of_getElem? (i := 2) rfl)) (hw _ (List.mem_of_getElem? (i := 1) rfl)) rfl (hb hby dt5_97) (by decide) (by decide) (fun xq => (mkF m 100 #[.val (.ref a), .val (.int (5 : Int32)), .val (.ref b2)] (.ref xq :: []))) (fun _ => rfl)
  have z25 := E25.1
  have K26 : Keep h0 h25 [] := K23.ext E25
  have D25_4 : Fld Z h25 b25 "java/lang/String" "value" "[B" .null := D25 (Or.inr (hw _ (List.mem_of_getElem? (i := 4) rfl))) (ty := (.array .byte)) (by decide)
  have D25_5 : Fld Z h25 b25 "java/lang/String" "coder" "B" (.int (0 : Int32)) := D25 (Or.inr (hw _ (List.mem_of_getElem? (i := 5) rfl))) (ty := .byte) (by decide)
  have w27 := w25.pure (mkF m 102 #[.val (.ref a), .val (.int (5 : Int32)), .val (.ref b2)] [(.ref b2), (.ref b25), (.ref b25)]) (fun X eT hZ hown k => by
      show Steps _ _ _ (State.setTop _ (mkF m 100 #[.val (.ref a), .val (.int (5 : Int32)), .val (.ref b2)] [(.ref b25)])) _
      refine S.dup X.here hx (hb hby dt5_100) rfl ?_
      refine S.aloadN X.here hx (hb hby dt5_101) rfl rfl ?_
      exact k)
  have F28 := U22.ext E25
  have F29 := X0.ext E2
  have F30 := F29.wr W6 (by omega)
  have F31 := F30.wr W10 (by omega)
  have F32 := F31.wr W14 (by omega)
  have F33 := F32.wr W18 (by omega)
  have F34 := F33.wr W22 (by omega)
  have F35 := F34.ext E25
  have r36 : ∀ c ∈ ([c0, c1, c2, c3, c4] : List Int32), ¬ c < 0 ∧ ¬ (255 : Int32) < c := (List.forall_mem_cons.mpr ⟨r0, (List.forall_mem_cons.mpr ⟨r1, (List.forall_mem_cons.mpr ⟨r2, (List.forall_mem_cons.mpr ⟨r3, (List.forall_mem_cons.mpr ⟨r4, (fun _ q => nomatch q)⟩)⟩)⟩)⟩)⟩)
  obtain ⟨v37, h37, Q37, K37, z37, w37⟩ := w27.callI hx (y := (⟨"java/lang/String", "<init>", "([C)V"⟩ : MethodName)) (W := 1) rfl (hw _ (List.mem_of_getElem? (i := 28) rfl)) (hw _ (List.mem_of_getElem? (i := 29) rfl)) (hw _ (List.mem_of_getElem? (i := 30) rfl)) (by decide) (payNew hG w27.hZ hq_backV (hw _ (List.mem_of_getElem? (i := 2) rfl)) [c0, c1, c2, c3, c4] 5 (by omega) A25 D25_4 D25_5 F28 F35 rfl rfl (by decide) (by decide) r36 (by decide) (by decide)) rfl (by rw [hml]; rfl) [(.ref b25)] (lenOf pd_11 rfl) rfl (by show 2 * 0 + _ ≤ _; exact Nat.le_of_eq rfl) (hb hby dt5_102) (by decide) (by decide) (fun _ _ => safe0) (fun rv => (mkF m 105 #[.val (.ref a), .val (.int (5 : Int32)), .val (.ref b2)] (rv.toList ++ [(.ref b25)]))) (fun _ => rfl)
  obtain ⟨rfl, G37⟩ := Q37
  have K38 : Keep h0 h37 [] := K26.trans K37 (allS (Or.inr (by omega)) (fun _ q => nomatch q))
  have lt_b25 := G37.lt
  exact w37.endN (v := some (.ref b25)) (Q := (fun v h => ∃ x, v = some (.ref x) ∧ n0 ≤ x ∧ Str Z h x [c0, c1, c2, c3, c4] h.size)) (wr := []) (h0 := h0) (fun h => by rw [Bd.returns] at h; cases h) Bd.notSynchronized (fun X hr => X.areturnOut hx rfl Bd.returns rfl (hb hby dt5_105) hr) (by decide) (by decide) ⟨b25, rfl, by omega, G37.more (by omega)⟩ K38
theorem dt6_0 : decode method_3_code 0 = .ok (.iload_n 1, 1) := by decide +kernel
theorem dt6_1 : decode method_3_code 1 = .ok (.newarray .char, 2) := by decide +kernel
theorem dt6_3 : decode method_3_code 3 = .ok (.astore_n 2, 1) := by decide +kernel
theorem dt6_4 : decode method_3_code 4 = .ok (.iload_n 1, 1) := by decide +kernel
theorem dt6_5 : decode method_3_code 5 = .ok (.ifCond .le 9, 3) := by decide +kernel
theorem dt6_8 : decode method_3_code 8 = .ok (.aload_n 2, 1) := by decide +kernel
theorem dt6_9 : decode method_3_code 9 = .ok (.iconst 0, 1) := by decide +kernel
theorem dt6_10 : decode method_3_code 10 = .ok (.aload_n 0, 1) := by decide +kernel
theorem dt6_11 : decode method_3_code 11 = .ok (.iconst 0, 1) := by decide +kernel
theorem dt6_12 : decode method_3_code 12 = .ok (.caload, 1) := by decide +kernel
theorem dt6_13 : decode method_3_code 13 = .ok (.castore, 1) := by decide +kernel
theorem dt6_14 : decode method_3_code 14 = .ok (.iload_n 1, 1) := by decide +kernel
theorem dt6_15 : decode method_3_code 15 = .ok (.iconst 1, 1) := by decide +kernel
theorem dt6_16 : decode method_3_code 16 = .ok (.if_icmp .le 9, 3) := by decide +kernel
theorem dt6_19 : decode method_3_code 19 = .ok (.aload_n 2, 1) := by decide +kernel
theorem dt6_20 : decode method_3_code 20 = .ok (.iconst 1, 1) := by decide +kernel
theorem dt6_21 : decode method_3_code 21 = .ok (.aload_n 0, 1) := by decide +kernel
theorem dt6_22 : decode method_3_code 22 = .ok (.iconst 1, 1) := by decide +kernel
theorem dt6_23 : decode method_3_code 23 = .ok (.caload, 1) := by decide +kernel
theorem dt6_24 : decode method_3_code 24 = .ok (.castore, 1) := by decide +kernel
theorem dt6_25 : decode method_3_code 25 = .ok (.iload_n 1, 1) := by decide +kernel
theorem dt6_26 : decode method_3_code 26 = .ok (.iconst 2, 1) := by decide +kernel
theorem dt6_27 : decode method_3_code 27 = .ok (.if_icmp .le 9, 3) := by decide +kernel
theorem dt6_30 : decode method_3_code 30 = .ok (.aload_n 2, 1) := by decide +kernel
theorem dt6_31 : decode method_3_code 31 = .ok (.iconst 2, 1) := by decide +kernel
theorem dt6_32 : decode method_3_code 32 = .ok (.aload_n 0, 1) := by decide +kernel
theorem dt6_33 : decode method_3_code 33 = .ok (.iconst 2, 1) := by decide +kernel
theorem dt6_34 : decode method_3_code 34 = .ok (.caload, 1) := by decide +kernel
theorem dt6_35 : decode method_3_code 35 = .ok (.castore, 1) := by decide +kernel
theorem dt6_36 : decode method_3_code 36 = .ok (.iload_n 1, 1) := by decide +kernel
theorem dt6_37 : decode method_3_code 37 = .ok (.iconst 3, 1) := by decide +kernel
theorem dt6_38 : decode method_3_code 38 = .ok (.if_icmp .le 9, 3) := by decide +kernel
theorem dt6_41 : decode method_3_code 41 = .ok (.aload_n 2, 1) := by decide +kernel
theorem dt6_42 : decode method_3_code 42 = .ok (.iconst 3, 1) := by decide +kernel
theorem dt6_43 : decode method_3_code 43 = .ok (.aload_n 0, 1) := by decide +kernel
theorem dt6_44 : decode method_3_code 44 = .ok (.iconst 3, 1) := by decide +kernel
theorem dt6_45 : decode method_3_code 45 = .ok (.caload, 1) := by decide +kernel
theorem dt6_46 : decode method_3_code 46 = .ok (.castore, 1) := by decide +kernel
theorem dt6_47 : decode method_3_code 47 = .ok (.iload_n 1, 1) := by decide +kernel
theorem dt6_48 : decode method_3_code 48 = .ok (.iconst 4, 1) := by decide +kernel
theorem dt6_49 : decode method_3_code 49 = .ok (.if_icmp .le 9, 3) := by decide +kernel
theorem dt6_52 : decode method_3_code 52 = .ok (.aload_n 2, 1) := by decide +kernel
theorem dt6_53 : decode method_3_code 53 = .ok (.iconst 4, 1) := by decide +kernel
theorem dt6_54 : decode method_3_code 54 = .ok (.aload_n 0, 1) := by decide +kernel
theorem dt6_55 : decode method_3_code 55 = .ok (.iconst 4, 1) := by decide +kernel
theorem dt6_56 : decode method_3_code 56 = .ok (.caload, 1) := by decide +kernel
theorem dt6_57 : decode method_3_code 57 = .ok (.castore, 1) := by decide +kernel
theorem dt6_58 : decode method_3_code 58 = .ok (.iload_n 1, 1) := by decide +kernel
theorem dt6_59 : decode method_3_code 59 = .ok (.iconst 5, 1) := by decide +kernel
theorem dt6_60 : decode method_3_code 60 = .ok (.if_icmp .le 9, 3) := by decide +kernel
theorem dt6_63 : decode method_3_code 63 = .ok (.aload_n 2, 1) := by decide +kernel
theorem dt6_64 : decode method_3_code 64 = .ok (.iconst 5, 1) := by decide +kernel
theorem dt6_65 : decode method_3_code 65 = .ok (.aload_n 0, 1) := by decide +kernel
theorem dt6_66 : decode method_3_code 66 = .ok (.iconst 5, 1) := by decide +kernel
theorem dt6_67 : decode method_3_code 67 = .ok (.caload, 1) := by decide +kernel
theorem dt6_68 : decode method_3_code 68 = .ok (.castore, 1) := by decide +kernel
theorem dt6_69 : decode method_3_code 69 = .ok (.iload_n 1, 1) := by decide +kernel
theorem dt6_70 : decode method_3_code 70 = .ok (.bipush 6, 2) := by decide +kernel
theorem dt6_72 : decode method_3_code 72 = .ok (.if_icmp .le 11, 3) := by decide +kernel
theorem dt6_83 : decode method_3_code 83 = .ok (.iload_n 1, 1) := by decide +kernel
theorem dt6_84 : decode method_3_code 84 = .ok (.bipush 7, 2) := by decide +kernel
theorem dt6_86 : decode method_3_code 86 = .ok (.if_icmp .le 11, 3) := by decide +kernel
theorem dt6_97 : decode method_3_code 97 = .ok (.new 9, 3) := by decide +kernel
theorem dt6_100 : decode method_3_code 100 = .ok (.dup, 1) := by decide +kernel
theorem dt6_101 : decode method_3_code 101 = .ok (.aload_n 2, 1) := by decide +kernel
theorem dt6_102 : decode method_3_code 102 = .ok (.invokespecial 11, 3) := by decide +kernel
theorem dt6_105 : decode method_3_code 105 = .ok (.areturn, 1) := by decide +kernel
theorem eft6 (m : MethodId) (x0 : Nat) (x1 : Int32) : entryFrame m #[(.ref x0), (.int x1)] 3 = mkF m 0 #[.val (.ref x0), .val (.int x1), .unset] [] := by first | (simp [entryFrame, mkF, argsToLocals, Value.category, maxLocals]; done) | rfl
set_option maxRecDepth 65536 in
set_option maxHeartbeats 40000000 in
theorem rmt6 (l : Launch) (Z : State) (a0 : Array Value) (hw : ∀ d ∈ tables_1, d.before a0 Z = true) (a : Nat) (k : ClassId) (c0 c1 c2 c3 c4 c5 c6 c7 : Int32) (h0 : Heap) (n0 : Nat) (Z0 : n0 ≤ h0.size) (hG : SetsOk Z) (X0 : Old Z n0 h0) (V0 : Arv Z h0 a k .char (8 : Int32) [(.int c0), (.int c1), (.int c2), (.int c3), (.int c4), (.int c5), (.int c6), (.int c7)] (.int (0 : Int32))) (r0 : ¬ c0 < 0 ∧ ¬ (255 : Int32) < c0) (r1 : ¬ c1 < 0 ∧ ¬ (255 : Int32) < c1) (r2 : ¬ c2 < 0 ∧ ¬ (255 : Int32) < c2) (r3 : ¬ c3 < 0 ∧ ¬ (255 : Int32) < c3) (r4 : ¬ c4 < 0 ∧ ¬ (255 : Int32) < c4) (r5 : ¬ c5 < 0 ∧ ¬ (255 : Int32) < c5) (r6 : ¬ c6 < 0 ∧ ¬ (255 : Int32) < c6) (r7 : ¬ c7 < 0 ∧ ¬ (255 : Int32) < c7) :
    NMet l Z (⟨"com/example/bylaw/bylaw/TreePathParentPinLaw", "str", "([CI)Ljava/lang/String;"⟩ : MethodName) method_3_code 3 (some (.object "java/lang/String")) [] ({ frames := 4, cells := 3, slots := 16, locals := 66 } : Room) [(.ref a), (.int (6 : Int32))] h0 n0 [] (fun v h => ∃ x, v = some (.ref x) ∧ n0 ≤ x ∧ Str Z h x [c0, c1, c2, c3, c4, c5] h.size) := by
  refine MetFree.of_bodySF pn_15 hisR ?_
  intro p e s m args below meth c s₁ Bd hml0 hP hK
  obtain ⟨rfl, hZ, hh⟩ := hP
  have hx := Bd.exec
  have hby := Bd.bytes
  have hml : c.maxLocals = 3 := hml0
  have hnm := (name_of_methodNamed Bd.named Bd.method).1
  have w0 := Wk.start (a0 := a0) (EL := []) (n0 := n0) (nw := true) Bd hZ hh EW.nil chv0 (eft6 m a (6 : Int32)) ({ frames := 4, cells := 3, slots := 16, locals := 66 } : Room) rfl
  have K0 : Keep h0 h0 [] := Keep.refl _ _
  have lt_V0 := arlt V0
  have hq_backV : ∀ d ∈ StrChars.Road.words, d.before a0 Z = true := fun d hd => hw d ((by decide +kernel : ∀ d ∈ StrChars.Road.words, d ∈ tables_1) d hd)
  have w1 := w0.pure (mkF m 1 #[.val (.ref a), .val (.int (6 : Int32)), .unset] [(.int (6 : Int32))]) (fun X eT hZ hown k => by
      show Steps _ _ _ (State.setTop _ (mkF m 0 #[.val (.ref a), .val (.int (6 : Int32)), .unset] [])) _
      refine S.iloadN X.here hx (hb hby dt6_0) rfl ?_
      exact k)
  obtain ⟨b2, h2, k2, g2, E2, l2, A2, y2, w2⟩ := w1.newP hx (hw _ (List.mem_of_getElem? (i := 18) rfl)) rfl (hb hby dt6_1) rfl (by decide) 6 (by decide) (by decide) (by decide) (by decide) (fun xq => (mkF m 3 #[.val (.ref a), .val (.int (6 : Int32)), .unset] (.ref xq :: []))) (fun _ => rfl)
  have z2 := E2.1
  have K3 : Keep h0 h2 [] := K0.ext E2
  have V2 : Arv Z h2 b2 k2 .char (6 : Int32) [(.int (0 : Int32)), (.int (0 : Int32)), (.int (0 : Int32)), (.int (0 : Int32)), (.int (0 : Int32)), (.int (0 : Int32))] (.int (0 : Int32)) := A2.pad (pad_rep [] (.int (0 : Int32)) 6)
  have F4 := V0.ext E2
  have w5 := w2.pure (mkF m 13 #[.val (.ref a), .val (.int (6 : Int32)), .val (.ref b2)] [(.int c0), (.int (0 : Int32)), (.ref b2)]) (fun X eT hZ hown k => by
      show Steps _ _ _ (State.setTop _ (mkF m 3 #[.val (.ref a), .val (.int (6 : Int32)), .unset] [(.ref b2)])) _
      refine S.astoreN X.here hx (hb hby dt6_3) rfl #[.val (.ref a), .val (.int (6 : Int32)), .val (.ref b2)] rfl ?_
      refine S.iloadN X.here hx (hb hby dt6_4) rfl ?_
      refine S.ifNo X.here hx (hb hby dt6_5) (by decide) ?_
      refine S.aloadN X.here hx (hb hby dt6_8) rfl rfl ?_
      refine S.iconst X.here hx (0 : Int32) (hb hby dt6_9) rfl ?_
      refine S.aloadN X.here hx (hb hby dt6_10) rfl rfl ?_
      refine S.iconst X.here hx (0 : Int32) (hb hby dt6_11) rfl ?_
      refine caV X hx eT hZ F4 (v := (.int c0)) ⟨by decide, by decide⟩ rfl rfl rfl (hb hby dt6_12) ?_
      show Steps _ _ _ (State.setTop _ (mkF m 13 #[.val (.ref a), .val (.int (6 : Int32)), .val (.ref b2)] [(.int c0), (.int (0 : Int32)), (.ref b2)])) _
      exact k)
  obtain ⟨h6, W6, z6, V6, w6⟩ := w5.stC hx V2 0 rfl (Nat.le_of_ble_eq_true rfl) ⟨by decide, by decide⟩ rfl rfl (hb hby dt6_13) (by omega) (mkF m 14 #[.val (.ref a), .val (.int (6 : Int32)), .val (.ref b2)] []) rfl
  rw [nar_rng r0] at V6
  have U6 : Arv Z h6 b2 k2 .char (6 : Int32) [(.int c0), (.int (0 : Int32)), (.int (0 : Int32)), (.int (0 : Int32)), (.int (0 : Int32)), (.int (0 : Int32))] (.int (0 : Int32)) := V6
  have K7 : Keep h0 h6 [] := K3.wr W6 (Or.inr (by omega))
  have F8 := F4.other W6 (nne (by omega))
  have w9 := w6.pure (mkF m 24 #[.val (.ref a), .val (.int (6 : Int32)), .val (.ref b2)] [(.int c1), (.int (1 : Int32)), (.ref b2)]) (fun X eT hZ hown k => by
      show Steps _ _ _ (State.setTop _ (mkF m 14 #[.val (.ref a), .val (.int (6 : Int32)), .val (.ref b2)] [])) _
      refine S.iloadN X.here hx (hb hby dt6_14) rfl ?_
      refine S.iconst X.here hx (1 : Int32) (hb hby dt6_15) rfl ?_
      refine S.icmpNo X.here hx (hb hby dt6_16) (by decide) ?_
      refine S.aloadN X.here hx (hb hby dt6_19) rfl rfl ?_
      refine S.iconst X.here hx (1 : Int32) (hb hby dt6_20) rfl ?_
      refine S.aloadN X.here hx (hb hby dt6_21) rfl rfl ?_
      refine S.iconst X.here hx (1 : Int32) (hb hby dt6_22) rfl ?_
      refine caV X hx eT hZ F8 (v := (.int c1)) ⟨by decide, by decide⟩ rfl rfl rfl (hb hby dt6_23) ?_
      show Steps _ _ _ (State.setTop _ (mkF m 24 #[.val (.ref a), .val (.int (6 : Int32)), .val (.ref b2)] [(.int c1), (.int (1 : Int32)), (.ref b2)])) _
      exact k)
  obtain ⟨h10, W10, z10, V10, w10⟩ := w9.stC hx U6 1 rfl (Nat.le_of_ble_eq_true rfl) ⟨by decide, by decide⟩ rfl rfl (hb hby dt6_24) (by omega) (mkF m 25 #[.val (.ref a), .val (.int (6 : Int32)), .val (.ref b2)] []) rfl
  rw [nar_rng r1] at V10
  have U10 : Arv Z h10 b2 k2 .char (6 : Int32) [(.int c0), (.int c1), (.int (0 : Int32)), (.int (0 : Int32)), (.int (0 : Int32)), (.int (0 : Int32))] (.int (0 : Int32)) := V10
  have K11 : Keep h0 h10 [] := K7.wr W10 (Or.inr (by omega))
  have F12 := F8.other W10 (nne (by omega))
  have w13 := w10.pure (mkF m 35 #[.val (.ref a), .val (.int (6 : Int32)), .val (.ref b2)] [(.int c2), (.int (2 : Int32)), (.ref b2)]) (fun X eT hZ hown k => by
      show Steps _ _ _ (State.setTop _ (mkF m 25 #[.val (.ref a), .val (.int (6 : Int32)), .val (.ref b2)] [])) _
      refine S.iloadN X.here hx (hb hby dt6_25) rfl ?_
      refine S.iconst X.here hx (2 : Int32) (hb hby dt6_26) rfl ?_
      refine S.icmpNo X.here hx (hb hby dt6_27) (by decide) ?_
      refine S.aloadN X.here hx (hb hby dt6_30) rfl rfl ?_
      refine S.iconst X.here hx (2 : Int32) (hb hby dt6_31) rfl ?_
      refine S.aloadN X.here hx (hb hby dt6_32) rfl rfl ?_
      refine S.iconst X.here hx (2 : Int32) (hb hby dt6_33) rfl ?_
      refine caV X hx eT hZ F12 (v := (.int c2)) ⟨by decide, by decide⟩ rfl rfl rfl (hb hby dt6_34) ?_
      show Steps _ _ _ (State.setTop _ (mkF m 35 #[.val (.ref a), .val (.int (6 : Int32)), .val (.ref b2)] [(.int c2), (.int (2 : Int32)), (.ref b2)])) _
      exact k)
  obtain ⟨h14, W14, z14, V14, w14⟩ := w13.stC hx U10 2 rfl (Nat.le_of_ble_eq_true rfl) ⟨by decide, by decide⟩ rfl rfl (hb hby dt6_35) (by omega) (mkF m 36 #[.val (.ref a), .val (.int (6 : Int32)), .val (.ref b2)] []) rfl
  rw [nar_rng r2] at V14
  have U14 : Arv Z h14 b2 k2 .char (6 : Int32) [(.int c0), (.int c1), (.int c2), (.int (0 : Int32)), (.int (0 : Int32)), (.int (0 : Int32))] (.int (0 : Int32)) := V14
  have K15 : Keep h0 h14 [] := K11.wr W14 (Or.inr (by omega))
  have F16 := F12.other W14 (nne (by omega))
  have w17 := w14.pure (mkF m 46 #[.val (.ref a), .val (.int (6 : Int32)), .val (.ref b2)] [(.int c3), (.int (3 : Int32)), (.ref b2)]) (fun X eT hZ hown k => by
      show Steps _ _ _ (State.setTop _ (mkF m 36 #[.val (.ref a), .val (.int (6 : Int32)), .val (.ref b2)] [])) _
      refine S.iloadN X.here hx (hb hby dt6_36) rfl ?_
      refine S.iconst X.here hx (3 : Int32) (hb hby dt6_37) rfl ?_
      refine S.icmpNo X.here hx (hb hby dt6_38) (by decide) ?_
      refine S.aloadN X.here hx (hb hby dt6_41) rfl rfl ?_
      refine S.iconst X.here hx (3 : Int32) (hb hby dt6_42) rfl ?_
      refine S.aloadN X.here hx (hb hby dt6_43) rfl rfl ?_
      refine S.iconst X.here hx (3 : Int32) (hb hby dt6_44) rfl ?_
      refine caV X hx eT hZ F16 (v := (.int c3)) ⟨by decide, by decide⟩ rfl rfl rfl (hb hby dt6_45) ?_
      show Steps _ _ _ (State.setTop _ (mkF m 46 #[.val (.ref a), .val (.int (6 : Int32)), .val (.ref b2)] [(.int c3), (.int (3 : Int32)), (.ref b2)])) _
      exact k)
  obtain ⟨h18, W18, z18, V18, w18⟩ := w17.stC hx U14 3 rfl (Nat.le_of_ble_eq_true rfl) ⟨by decide, by decide⟩ rfl rfl (hb hby dt6_46) (by omega) (mkF m 47 #[.val (.ref a), .val (.int (6 : Int32)), .val (.ref b2)] []) rfl
  rw [nar_rng r3] at V18
  have U18 : Arv Z h18 b2 k2 .char (6 : Int32) [(.int c0), (.int c1), (.int c2), (.int c3), (.int (0 : Int32)), (.int (0 : Int32))] (.int (0 : Int32)) := V18
  have K19 : Keep h0 h18 [] := K15.wr W18 (Or.inr (by omega))
  have F20 := F16.other W18 (nne (by omega))
  have w21 := w18.pure (mkF m 57 #[.val (.ref a), .val (.int (6 : Int32)), .val (.ref b2)] [(.int c4), (.int (4 : Int32)), (.ref b2)]) (fun X eT hZ hown k => by
      show Steps _ _ _ (State.setTop _ (mkF m 47 #[.val (.ref a), .val (.int (6 : Int32)), .val (.ref b2)] [])) _
      refine S.iloadN X.here hx (hb hby dt6_47) rfl ?_
      refine S.iconst X.here hx (4 : Int32) (hb hby dt6_48) rfl ?_
      refine S.icmpNo X.here hx (hb hby dt6_49) (by decide) ?_
      refine S.aloadN X.here hx (hb hby dt6_52) rfl rfl ?_
      refine S.iconst X.here hx (4 : Int32) (hb hby dt6_53) rfl ?_
      refine S.aloadN X.here hx (hb hby dt6_54) rfl rfl ?_
      refine S.iconst X.here hx (4 : Int32) (hb hby dt6_55) rfl ?_
      refine caV X hx eT hZ F20 (v := (.int c4)) ⟨by decide, by decide⟩ rfl rfl rfl (hb hby dt6_56) ?_
      show Steps _ _ _ (State.setTop _ (mkF m 57 #[.val (.ref a), .val (.int (6 : Int32)), .val (.ref b2)] [(.int c4), (.int (4 : Int32)), (.ref b2)])) _
      exact k)
  obtain ⟨h22, W22, z22, V22, w22⟩ := w21.stC hx U18 4 rfl (Nat.le_of_ble_eq_true rfl) ⟨by decide, by decide⟩ rfl rfl (hb hby dt6_57) (by omega) (mkF m 58 #[.val (.ref a), .val (.int (6 : Int32)), .val (.ref b2)] []) rfl
  rw [nar_rng r4] at V22
  have U22 : Arv Z h22 b2 k2 .char (6 : Int32) [(.int c0), (.int c1), (.int c2), (.int c3), (.int c4), (.int (0 : Int32))] (.int (0 : Int32)) := V22
  have K23 : Keep h0 h22 [] := K19.wr W22 (Or.inr (by omega))
  have F24 := F20.other W22 (nne (by omega))
  have w25 := w22.pure (mkF m 68 #[.val (.ref a), .val (.int (6 : Int32)), .val (.ref b2)] [(.int c5), (.int (5 : Int32)), (.ref b2)]) (fun X eT hZ hown k => by
      show Steps _ _ _ (State.setTop _ (mkF m 58 #[.val (.ref a), .val (.int (6 : Int32)), .val (.ref b2)] [])) _
      refine S.iloadN X.here hx (hb hby dt6_58) rfl ?_
      refine S.iconst X.here hx (5 : Int32) (hb hby dt6_59) rfl ?_
      refine S.icmpNo X.here hx (hb hby dt6_60) (by decide) ?_
      refine S.aloadN X.here hx (hb hby dt6_63) rfl rfl ?_
      refine S.iconst X.here hx (5 : Int32) (hb hby dt6_64) rfl ?_
      refine S.aloadN X.here hx (hb hby dt6_65) rfl rfl ?_
      refine S.iconst X.here hx (5 : Int32) (hb hby dt6_66) rfl ?_
      refine caV X hx eT hZ F24 (v := (.int c5)) ⟨by decide, by decide⟩ rfl rfl rfl (hb hby dt6_67) ?_
      show Steps _ _ _ (State.setTop _ (mkF m 68 #[.val (.ref a), .val (.int (6 : Int32)), .val (.ref b2)] [(.int c5), (.int (5 : Int32)), (.ref b2)])) _
      exact k)
  obtain ⟨h26, W26, z26, V26, w26⟩ := w25.stC hx U22 5 rfl (Nat.le_of_ble_eq_true rfl) ⟨by decide, by decide⟩ rfl rfl (hb hby dt6_68) (by omega) (mkF m 69 #[.val (.ref a), .val (.int (6 : Int32)), .val (.ref b2)] []) rfl
  rw [nar_rng r5] at V26
  have U26 : Arv Z h26 b2 k2 .char (6 : Int32) [(.int c0), (.int c1), (.int c2), (.int c3), (.int c4), (.int c5)] (.int (0 : Int32)) := V26
  have K27 : Keep h0 h26 [] := K23.wr W26 (Or.inr (by omega))
  have w28 := w26.pure (mkF m 97 #[.val (.ref a), .val (.int (6 : Int32)), .val (.ref b2)] []) (fun X eT hZ hown k => by
      show Steps _ _ _ (State.setTop _ (mkF m 69 #[.val (.ref a), .val (.int (6 : Int32)), .val (.ref b2)] [])) _
      refine S.iloadN X.here hx (hb hby dt6_69) rfl ?_
      refine S.bipush X.here hx (6 : Int32) (hb hby dt6_70) rfl ?_
      refine S.icmpYes X.here hx 83 (hb hby dt6_72) (by decide) (by decide) (by decide) ?_
      refine S.iloadN X.here hx (hb hby dt6_83) rfl ?_
      refine S.bipush X.here hx (7 : Int32) (hb hby dt6_84) rfl ?_
      refine S.icmpYes X.here hx 97 (hb hby dt6_86) (by decide) (by decide) (by decide) ?_
      exact k)
  obtain ⟨b29, h29, g29, E29, l29, A29, D29, y29, w29⟩ := w28.newO hx (hw _ (List.mem_of_getElem? (i := 27) rfl)) (hw _ (List.mem_of_getElem? (i := 2) rfl)) (hw _ (List.mem_of_getElem? (i := 1) rfl)) rfl (hb hby dt6_97) (by decide) (by decide) (fun xq => (mkF m 100 #[.val (.ref a), .val (.int (6 : Int32)), .val (.ref b2)] (.ref xq :: []))) (fun _ => rfl)
  have z29 := E29.1
  have K30 : Keep h0 h29 [] := K27.ext E29
  have D29_4 : Fld Z h29 b29 "java/lang/String" "value" "[B" .null := D29 (Or.inr (hw _ (List.mem_of_getElem? (i := 4) rfl))) (ty := (.array .byte)) (by decide)
  have D29_5 : Fld Z h29 b29 "java/lang/String" "coder" "B" (.int (0 : Int32)) := D29 (Or.inr (hw _ (List.mem_of_getElem? (i := 5) rfl))) (ty := .byte) (by decide)
  have w31 := w29.pure (mkF m 102 #[.val (.ref a), .val (.int (6 : Int32)), .val (.ref b2)] [(.ref b2), (.ref b29), (.ref b29)]) (fun X eT hZ hown k => by
      show Steps _ _ _ (State.setTop _ (mkF m 100 #[.val (.ref a), .val (.int (6 : Int32)), .val (.ref b2)] [(.ref b29)])) _
      refine S.dup X.here hx (hb hby dt6_100) rfl ?_
      refine S.aloadN X.here hx (hb hby dt6_101) rfl rfl ?_
      exact k)
  have F32 := U26.ext E29
  have F33 := X0.ext E2
  have F34 := F33.wr W6 (by omega)
  have F35 := F34.wr W10 (by omega)
  have F36 := F35.wr W14 (by omega)
  have F37 := F36.wr W18 (by omega)
  have F38 := F37.wr W22 (by omega)
  have F39 := F38.wr W26 (by omega)
  have F40 := F39.ext E29
  have r41 : ∀ c ∈ ([c0, c1, c2, c3, c4, c5] : List Int32), ¬ c < 0 ∧ ¬ (255 : Int32) < c := (List.forall_mem_cons.mpr ⟨r0, (List.forall_mem_cons.mpr ⟨r1, (List.forall_mem_cons.mpr ⟨r2, (List.forall_mem_cons.mpr ⟨r3, (List.forall_mem_cons.mpr ⟨r4, (List.forall_mem_cons.mpr ⟨r5, (fun _ q => nomatch q)⟩)⟩)⟩)⟩)⟩)⟩)
  obtain ⟨v42, h42, Q42, K42, z42, w42⟩ := w31.callI hx (y := (⟨"java/lang/String", "<init>", "([C)V"⟩ : MethodName)) (W := 1) rfl (hw _ (List.mem_of_getElem? (i := 28) rfl)) (hw _ (List.mem_of_getElem? (i := 29) rfl)) (hw _ (List.mem_of_getElem? (i := 30) rfl)) (by decide) (payNew hG w31.hZ hq_backV (hw _ (List.mem_of_getElem? (i := 2) rfl)) [c0, c1, c2, c3, c4, c5] 6 (by omega) A29 D29_4 D29_5 F32 F40 rfl rfl (by decide) (by decide) r41 (by decide) (by decide)) rfl (by rw [hml]; rfl) [(.ref b29)] (lenOf pd_11 rfl) rfl (by show 2 * 0 + _ ≤ _; exact Nat.le_of_eq rfl) (hb hby dt6_102) (by decide) (by decide) (fun _ _ => safe0) (fun rv => (mkF m 105 #[.val (.ref a), .val (.int (6 : Int32)), .val (.ref b2)] (rv.toList ++ [(.ref b29)]))) (fun _ => rfl)
  obtain ⟨rfl, G42⟩ := Q42
  have K43 : Keep h0 h42 [] := K30.trans K42 (allS (Or.inr (by omega)) (fun _ q => nomatch q))
  have lt_b29 := G42.lt
  exact w42.endN (v := some (.ref b29)) (Q := (fun v h => ∃ x, v = some (.ref x) ∧ n0 ≤ x ∧ Str Z h x [c0, c1, c2, c3, c4, c5] h.size)) (wr := []) (h0 := h0) (fun h => by rw [Bd.returns] at h; cases h) Bd.notSynchronized (fun X hr => X.areturnOut hx rfl Bd.returns rfl (hb hby dt6_105) hr) (by decide) (by decide) ⟨b29, rfl, by omega, G42.more (by omega)⟩ K43
theorem dt7_0 : decode method_3_code 0 = .ok (.iload_n 1, 1) := by decide +kernel
theorem dt7_1 : decode method_3_code 1 = .ok (.newarray .char, 2) := by decide +kernel
theorem dt7_3 : decode method_3_code 3 = .ok (.astore_n 2, 1) := by decide +kernel
theorem dt7_4 : decode method_3_code 4 = .ok (.iload_n 1, 1) := by decide +kernel
theorem dt7_5 : decode method_3_code 5 = .ok (.ifCond .le 9, 3) := by decide +kernel
theorem dt7_8 : decode method_3_code 8 = .ok (.aload_n 2, 1) := by decide +kernel
theorem dt7_9 : decode method_3_code 9 = .ok (.iconst 0, 1) := by decide +kernel
theorem dt7_10 : decode method_3_code 10 = .ok (.aload_n 0, 1) := by decide +kernel
theorem dt7_11 : decode method_3_code 11 = .ok (.iconst 0, 1) := by decide +kernel
theorem dt7_12 : decode method_3_code 12 = .ok (.caload, 1) := by decide +kernel
theorem dt7_13 : decode method_3_code 13 = .ok (.castore, 1) := by decide +kernel
theorem dt7_14 : decode method_3_code 14 = .ok (.iload_n 1, 1) := by decide +kernel
theorem dt7_15 : decode method_3_code 15 = .ok (.iconst 1, 1) := by decide +kernel
theorem dt7_16 : decode method_3_code 16 = .ok (.if_icmp .le 9, 3) := by decide +kernel
theorem dt7_19 : decode method_3_code 19 = .ok (.aload_n 2, 1) := by decide +kernel
theorem dt7_20 : decode method_3_code 20 = .ok (.iconst 1, 1) := by decide +kernel
theorem dt7_21 : decode method_3_code 21 = .ok (.aload_n 0, 1) := by decide +kernel
theorem dt7_22 : decode method_3_code 22 = .ok (.iconst 1, 1) := by decide +kernel
theorem dt7_23 : decode method_3_code 23 = .ok (.caload, 1) := by decide +kernel
theorem dt7_24 : decode method_3_code 24 = .ok (.castore, 1) := by decide +kernel
theorem dt7_25 : decode method_3_code 25 = .ok (.iload_n 1, 1) := by decide +kernel
theorem dt7_26 : decode method_3_code 26 = .ok (.iconst 2, 1) := by decide +kernel
theorem dt7_27 : decode method_3_code 27 = .ok (.if_icmp .le 9, 3) := by decide +kernel
theorem dt7_30 : decode method_3_code 30 = .ok (.aload_n 2, 1) := by decide +kernel
theorem dt7_31 : decode method_3_code 31 = .ok (.iconst 2, 1) := by decide +kernel
theorem dt7_32 : decode method_3_code 32 = .ok (.aload_n 0, 1) := by decide +kernel
theorem dt7_33 : decode method_3_code 33 = .ok (.iconst 2, 1) := by decide +kernel
theorem dt7_34 : decode method_3_code 34 = .ok (.caload, 1) := by decide +kernel
theorem dt7_35 : decode method_3_code 35 = .ok (.castore, 1) := by decide +kernel
theorem dt7_36 : decode method_3_code 36 = .ok (.iload_n 1, 1) := by decide +kernel
theorem dt7_37 : decode method_3_code 37 = .ok (.iconst 3, 1) := by decide +kernel
theorem dt7_38 : decode method_3_code 38 = .ok (.if_icmp .le 9, 3) := by decide +kernel
theorem dt7_41 : decode method_3_code 41 = .ok (.aload_n 2, 1) := by decide +kernel
theorem dt7_42 : decode method_3_code 42 = .ok (.iconst 3, 1) := by decide +kernel
theorem dt7_43 : decode method_3_code 43 = .ok (.aload_n 0, 1) := by decide +kernel
theorem dt7_44 : decode method_3_code 44 = .ok (.iconst 3, 1) := by decide +kernel
theorem dt7_45 : decode method_3_code 45 = .ok (.caload, 1) := by decide +kernel
theorem dt7_46 : decode method_3_code 46 = .ok (.castore, 1) := by decide +kernel
theorem dt7_47 : decode method_3_code 47 = .ok (.iload_n 1, 1) := by decide +kernel
theorem dt7_48 : decode method_3_code 48 = .ok (.iconst 4, 1) := by decide +kernel
theorem dt7_49 : decode method_3_code 49 = .ok (.if_icmp .le 9, 3) := by decide +kernel
theorem dt7_52 : decode method_3_code 52 = .ok (.aload_n 2, 1) := by decide +kernel
theorem dt7_53 : decode method_3_code 53 = .ok (.iconst 4, 1) := by decide +kernel
theorem dt7_54 : decode method_3_code 54 = .ok (.aload_n 0, 1) := by decide +kernel
theorem dt7_55 : decode method_3_code 55 = .ok (.iconst 4, 1) := by decide +kernel
theorem dt7_56 : decode method_3_code 56 = .ok (.caload, 1) := by decide +kernel
theorem dt7_57 : decode method_3_code 57 = .ok (.castore, 1) := by decide +kernel
theorem dt7_58 : decode method_3_code 58 = .ok (.iload_n 1, 1) := by decide +kernel
theorem dt7_59 : decode method_3_code 59 = .ok (.iconst 5, 1) := by decide +kernel
theorem dt7_60 : decode method_3_code 60 = .ok (.if_icmp .le 9, 3) := by decide +kernel
theorem dt7_63 : decode method_3_code 63 = .ok (.aload_n 2, 1) := by decide +kernel
theorem dt7_64 : decode method_3_code 64 = .ok (.iconst 5, 1) := by decide +kernel
theorem dt7_65 : decode method_3_code 65 = .ok (.aload_n 0, 1) := by decide +kernel
theorem dt7_66 : decode method_3_code 66 = .ok (.iconst 5, 1) := by decide +kernel
theorem dt7_67 : decode method_3_code 67 = .ok (.caload, 1) := by decide +kernel
theorem dt7_68 : decode method_3_code 68 = .ok (.castore, 1) := by decide +kernel
theorem dt7_69 : decode method_3_code 69 = .ok (.iload_n 1, 1) := by decide +kernel
theorem dt7_70 : decode method_3_code 70 = .ok (.bipush 6, 2) := by decide +kernel
theorem dt7_72 : decode method_3_code 72 = .ok (.if_icmp .le 11, 3) := by decide +kernel
theorem dt7_75 : decode method_3_code 75 = .ok (.aload_n 2, 1) := by decide +kernel
theorem dt7_76 : decode method_3_code 76 = .ok (.bipush 6, 2) := by decide +kernel
theorem dt7_78 : decode method_3_code 78 = .ok (.aload_n 0, 1) := by decide +kernel
theorem dt7_79 : decode method_3_code 79 = .ok (.bipush 6, 2) := by decide +kernel
theorem dt7_81 : decode method_3_code 81 = .ok (.caload, 1) := by decide +kernel
theorem dt7_82 : decode method_3_code 82 = .ok (.castore, 1) := by decide +kernel
theorem dt7_83 : decode method_3_code 83 = .ok (.iload_n 1, 1) := by decide +kernel
theorem dt7_84 : decode method_3_code 84 = .ok (.bipush 7, 2) := by decide +kernel
theorem dt7_86 : decode method_3_code 86 = .ok (.if_icmp .le 11, 3) := by decide +kernel
theorem dt7_97 : decode method_3_code 97 = .ok (.new 9, 3) := by decide +kernel
theorem dt7_100 : decode method_3_code 100 = .ok (.dup, 1) := by decide +kernel
theorem dt7_101 : decode method_3_code 101 = .ok (.aload_n 2, 1) := by decide +kernel
theorem dt7_102 : decode method_3_code 102 = .ok (.invokespecial 11, 3) := by decide +kernel
theorem dt7_105 : decode method_3_code 105 = .ok (.areturn, 1) := by decide +kernel
theorem eft7 (m : MethodId) (x0 : Nat) (x1 : Int32) : entryFrame m #[(.ref x0), (.int x1)] 3 = mkF m 0 #[.val (.ref x0), .val (.int x1), .unset] [] := by first | (simp [entryFrame, mkF, argsToLocals, Value.category, maxLocals]; done) | rfl
set_option maxRecDepth 65536 in
set_option maxHeartbeats 40000000 in
theorem rmt7 (l : Launch) (Z : State) (a0 : Array Value) (hw : ∀ d ∈ tables_1, d.before a0 Z = true) (a : Nat) (k : ClassId) (c0 c1 c2 c3 c4 c5 c6 c7 : Int32) (h0 : Heap) (n0 : Nat) (Z0 : n0 ≤ h0.size) (hG : SetsOk Z) (X0 : Old Z n0 h0) (V0 : Arv Z h0 a k .char (8 : Int32) [(.int c0), (.int c1), (.int c2), (.int c3), (.int c4), (.int c5), (.int c6), (.int c7)] (.int (0 : Int32))) (r0 : ¬ c0 < 0 ∧ ¬ (255 : Int32) < c0) (r1 : ¬ c1 < 0 ∧ ¬ (255 : Int32) < c1) (r2 : ¬ c2 < 0 ∧ ¬ (255 : Int32) < c2) (r3 : ¬ c3 < 0 ∧ ¬ (255 : Int32) < c3) (r4 : ¬ c4 < 0 ∧ ¬ (255 : Int32) < c4) (r5 : ¬ c5 < 0 ∧ ¬ (255 : Int32) < c5) (r6 : ¬ c6 < 0 ∧ ¬ (255 : Int32) < c6) (r7 : ¬ c7 < 0 ∧ ¬ (255 : Int32) < c7) :
    NMet l Z (⟨"com/example/bylaw/bylaw/TreePathParentPinLaw", "str", "([CI)Ljava/lang/String;"⟩ : MethodName) method_3_code 3 (some (.object "java/lang/String")) [] ({ frames := 4, cells := 3, slots := 18, locals := 66 } : Room) [(.ref a), (.int (7 : Int32))] h0 n0 [] (fun v h => ∃ x, v = some (.ref x) ∧ n0 ≤ x ∧ Str Z h x [c0, c1, c2, c3, c4, c5, c6] h.size) := by
  refine MetFree.of_bodySF pn_15 hisR ?_
  intro p e s m args below meth c s₁ Bd hml0 hP hK
  obtain ⟨rfl, hZ, hh⟩ := hP
  have hx := Bd.exec
  have hby := Bd.bytes
  have hml : c.maxLocals = 3 := hml0
  have hnm := (name_of_methodNamed Bd.named Bd.method).1
  have w0 := Wk.start (a0 := a0) (EL := []) (n0 := n0) (nw := true) Bd hZ hh EW.nil chv0 (eft7 m a (7 : Int32)) ({ frames := 4, cells := 3, slots := 18, locals := 66 } : Room) rfl
  have K0 : Keep h0 h0 [] := Keep.refl _ _
  have lt_V0 := arlt V0
  have hq_backV : ∀ d ∈ StrChars.Road.words, d.before a0 Z = true := fun d hd => hw d ((by decide +kernel : ∀ d ∈ StrChars.Road.words, d ∈ tables_1) d hd)
  have w1 := w0.pure (mkF m 1 #[.val (.ref a), .val (.int (7 : Int32)), .unset] [(.int (7 : Int32))]) (fun X eT hZ hown k => by
      show Steps _ _ _ (State.setTop _ (mkF m 0 #[.val (.ref a), .val (.int (7 : Int32)), .unset] [])) _
      refine S.iloadN X.here hx (hb hby dt7_0) rfl ?_
      exact k)
  obtain ⟨b2, h2, k2, g2, E2, l2, A2, y2, w2⟩ := w1.newP hx (hw _ (List.mem_of_getElem? (i := 18) rfl)) rfl (hb hby dt7_1) rfl (by decide) 7 (by decide) (by decide) (by decide) (by decide) (fun xq => (mkF m 3 #[.val (.ref a), .val (.int (7 : Int32)), .unset] (.ref xq :: []))) (fun _ => rfl)
  have z2 := E2.1
  have K3 : Keep h0 h2 [] := K0.ext E2
  have V2 : Arv Z h2 b2 k2 .char (7 : Int32) [(.int (0 : Int32)), (.int (0 : Int32)), (.int (0 : Int32)), (.int (0 : Int32)), (.int (0 : Int32)), (.int (0 : Int32)), (.int (0 : Int32))] (.int (0 : Int32)) := A2.pad (pad_rep [] (.int (0 : Int32)) 7)
  have F4 := V0.ext E2
  have w5 := w2.pure (mkF m 13 #[.val (.ref a), .val (.int (7 : Int32)), .val (.ref b2)] [(.int c0), (.int (0 : Int32)), (.ref b2)]) (fun X eT hZ hown k => by
      show Steps _ _ _ (State.setTop _ (mkF m 3 #[.val (.ref a), .val (.int (7 : Int32)), .unset] [(.ref b2)])) _
      refine S.astoreN X.here hx (hb hby dt7_3) rfl #[.val (.ref a), .val (.int (7 : Int32)), .val (.ref b2)] rfl ?_
      refine S.iloadN X.here hx (hb hby dt7_4) rfl ?_
      refine S.ifNo X.here hx (hb hby dt7_5) (by decide) ?_
      refine S.aloadN X.here hx (hb hby dt7_8) rfl rfl ?_
      refine S.iconst X.here hx (0 : Int32) (hb hby dt7_9) rfl ?_
      refine S.aloadN X.here hx (hb hby dt7_10) rfl rfl ?_
      refine S.iconst X.here hx (0 : Int32) (hb hby dt7_11) rfl ?_
      refine caV X hx eT hZ F4 (v := (.int c0)) ⟨by decide, by decide⟩ rfl rfl rfl (hb hby dt7_12) ?_
      show Steps _ _ _ (State.setTop _ (mkF m 13 #[.val (.ref a), .val (.int (7 : Int32)), .val (.ref b2)] [(.int c0), (.int (0 : Int32)), (.ref b2)])) _
      exact k)
  obtain ⟨h6, W6, z6, V6, w6⟩ := w5.stC hx V2 0 rfl (Nat.le_of_ble_eq_true rfl) ⟨by decide, by decide⟩ rfl rfl (hb hby dt7_13) (by omega) (mkF m 14 #[.val (.ref a), .val (.int (7 : Int32)), .val (.ref b2)] []) rfl
  rw [nar_rng r0] at V6
  have U6 : Arv Z h6 b2 k2 .char (7 : Int32) [(.int c0), (.int (0 : Int32)), (.int (0 : Int32)), (.int (0 : Int32)), (.int (0 : Int32)), (.int (0 : Int32)), (.int (0 : Int32))] (.int (0 : Int32)) := V6
  have K7 : Keep h0 h6 [] := K3.wr W6 (Or.inr (by omega))
  have F8 := F4.other W6 (nne (by omega))
  have w9 := w6.pure (mkF m 24 #[.val (.ref a), .val (.int (7 : Int32)), .val (.ref b2)] [(.int c1), (.int (1 : Int32)), (.ref b2)]) (fun X eT hZ hown k => by
      show Steps _ _ _ (State.setTop _ (mkF m 14 #[.val (.ref a), .val (.int (7 : Int32)), .val (.ref b2)] [])) _
      refine S.iloadN X.here hx (hb hby dt7_14) rfl ?_
      refine S.iconst X.here hx (1 : Int32) (hb hby dt7_15) rfl ?_
      refine S.icmpNo X.here hx (hb hby dt7_16) (by decide) ?_
      refine S.aloadN X.here hx (hb hby dt7_19) rfl rfl ?_
      refine S.iconst X.here hx (1 : Int32) (hb hby dt7_20) rfl ?_
      refine S.aloadN X.here hx (hb hby dt7_21) rfl rfl ?_
      refine S.iconst X.here hx (1 : Int32) (hb hby dt7_22) rfl ?_
      refine caV X hx eT hZ F8 (v := (.int c1)) ⟨by decide, by decide⟩ rfl rfl rfl (hb hby dt7_23) ?_
      show Steps _ _ _ (State.setTop _ (mkF m 24 #[.val (.ref a), .val (.int (7 : Int32)), .val (.ref b2)] [(.int c1), (.int (1 : Int32)), (.ref b2)])) _
      exact k)
  obtain ⟨h10, W10, z10, V10, w10⟩ := w9.stC hx U6 1 rfl (Nat.le_of_ble_eq_true rfl) ⟨by decide, by decide⟩ rfl rfl (hb hby dt7_24) (by omega) (mkF m 25 #[.val (.ref a), .val (.int (7 : Int32)), .val (.ref b2)] []) rfl
  rw [nar_rng r1] at V10
  have U10 : Arv Z h10 b2 k2 .char (7 : Int32) [(.int c0), (.int c1), (.int (0 : Int32)), (.int (0 : Int32)), (.int (0 : Int32)), (.int (0 : Int32)), (.int (0 : Int32))] (.int (0 : Int32)) := V10
  have K11 : Keep h0 h10 [] := K7.wr W10 (Or.inr (by omega))
  have F12 := F8.other W10 (nne (by omega))
  have w13 := w10.pure (mkF m 35 #[.val (.ref a), .val (.int (7 : Int32)), .val (.ref b2)] [(.int c2), (.int (2 : Int32)), (.ref b2)]) (fun X eT hZ hown k => by
      show Steps _ _ _ (State.setTop _ (mkF m 25 #[.val (.ref a), .val (.int (7 : Int32)), .val (.ref b2)] [])) _
      refine S.iloadN X.here hx (hb hby dt7_25) rfl ?_
      refine S.iconst X.here hx (2 : Int32) (hb hby dt7_26) rfl ?_
      refine S.icmpNo X.here hx (hb hby dt7_27) (by decide) ?_
      refine S.aloadN X.here hx (hb hby dt7_30) rfl rfl ?_
      refine S.iconst X.here hx (2 : Int32) (hb hby dt7_31) rfl ?_
      refine S.aloadN X.here hx (hb hby dt7_32) rfl rfl ?_
      refine S.iconst X.here hx (2 : Int32) (hb hby dt7_33) rfl ?_
      refine caV X hx eT hZ F12 (v := (.int c2)) ⟨by decide, by decide⟩ rfl rfl rfl (hb hby dt7_34) ?_
      show Steps _ _ _ (State.setTop _ (mkF m 35 #[.val (.ref a), .val (.int (7 : Int32)), .val (.ref b2)] [(.int c2), (.int (2 : Int32)), (.ref b2)])) _
      exact k)
  obtain ⟨h14, W14, z14, V14, w14⟩ := w13.stC hx U10 2 rfl (Nat.le_of_ble_eq_true rfl) ⟨by decide, by decide⟩ rfl rfl (hb hby dt7_35) (by omega) (mkF m 36 #[.val (.ref a), .val (.int (7 : Int32)), .val (.ref b2)] []) rfl
  rw [nar_rng r2] at V14
  have U14 : Arv Z h14 b2 k2 .char (7 : Int32) [(.int c0), (.int c1), (.int c2), (.int (0 : Int32)), (.int (0 : Int32)), (.int (0 : Int32)), (.int (0 : Int32))] (.int (0 : Int32)) := V14
  have K15 : Keep h0 h14 [] := K11.wr W14 (Or.inr (by omega))
  have F16 := F12.other W14 (nne (by omega))
  have w17 := w14.pure (mkF m 46 #[.val (.ref a), .val (.int (7 : Int32)), .val (.ref b2)] [(.int c3), (.int (3 : Int32)), (.ref b2)]) (fun X eT hZ hown k => by
      show Steps _ _ _ (State.setTop _ (mkF m 36 #[.val (.ref a), .val (.int (7 : Int32)), .val (.ref b2)] [])) _
      refine S.iloadN X.here hx (hb hby dt7_36) rfl ?_
      refine S.iconst X.here hx (3 : Int32) (hb hby dt7_37) rfl ?_
      refine S.icmpNo X.here hx (hb hby dt7_38) (by decide) ?_
      refine S.aloadN X.here hx (hb hby dt7_41) rfl rfl ?_
      refine S.iconst X.here hx (3 : Int32) (hb hby dt7_42) rfl ?_
      refine S.aloadN X.here hx (hb hby dt7_43) rfl rfl ?_
      refine S.iconst X.here hx (3 : Int32) (hb hby dt7_44) rfl ?_
      refine caV X hx eT hZ F16 (v := (.int c3)) ⟨by decide, by decide⟩ rfl rfl rfl (hb hby dt7_45) ?_
      show Steps _ _ _ (State.setTop _ (mkF m 46 #[.val (.ref a), .val (.int (7 : Int32)), .val (.ref b2)] [(.int c3), (.int (3 : Int32)), (.ref b2)])) _
      exact k)
  obtain ⟨h18, W18, z18, V18, w18⟩ := w17.stC hx U14 3 rfl (Nat.le_of_ble_eq_true rfl) ⟨by decide, by decide⟩ rfl rfl (hb hby dt7_46) (by omega) (mkF m 47 #[.val (.ref a), .val (.int (7 : Int32)), .val (.ref b2)] []) rfl
  rw [nar_rng r3] at V18
  have U18 : Arv Z h18 b2 k2 .char (7 : Int32) [(.int c0), (.int c1), (.int c2), (.int c3), (.int (0 : Int32)), (.int (0 : Int32)), (.int (0 : Int32))] (.int (0 : Int32)) := V18
  have K19 : Keep h0 h18 [] := K15.wr W18 (Or.inr (by omega))
  have F20 := F16.other W18 (nne (by omega))
  have w21 := w18.pure (mkF m 57 #[.val (.ref a), .val (.int (7 : Int32)), .val (.ref b2)] [(.int c4), (.int (4 : Int32)), (.ref b2)]) (fun X eT hZ hown k => by
      show Steps _ _ _ (State.setTop _ (mkF m 47 #[.val (.ref a), .val (.int (7 : Int32)), .val (.ref b2)] [])) _
      refine S.iloadN X.here hx (hb hby dt7_47) rfl ?_
      refine S.iconst X.here hx (4 : Int32) (hb hby dt7_48) rfl ?_
      refine S.icmpNo X.here hx (hb hby dt7_49) (by decide) ?_
      refine S.aloadN X.here hx (hb hby dt7_52) rfl rfl ?_
      refine S.iconst X.here hx (4 : Int32) (hb hby dt7_53) rfl ?_
      refine S.aloadN X.here hx (hb hby dt7_54) rfl rfl ?_
      refine S.iconst X.here hx (4 : Int32) (hb hby dt7_55) rfl ?_
      refine caV X hx eT hZ F20 (v := (.int c4)) ⟨by decide, by decide⟩ rfl rfl rfl (hb hby dt7_56) ?_
      show Steps _ _ _ (State.setTop _ (mkF m 57 #[.val (.ref a), .val (.int (7 : Int32)), .val (.ref b2)] [(.int c4), (.int (4 : Int32)), (.ref b2)])) _
      exact k)
  obtain ⟨h22, W22, z22, V22, w22⟩ := w21.stC hx U18 4 rfl (Nat.le_of_ble_eq_true rfl) ⟨by decide, by decide⟩ rfl rfl (hb hby dt7_57) (by omega) (mkF m 58 #[.val (.ref a), .val (.int (7 : Int32)), .val (.ref b2)] []) rfl
  rw [nar_rng r4] at V22
  have U22 : Arv Z h22 b2 k2 .char (7 : Int32) [(.int c0), (.int c1), (.int c2), (.int c3), (.int c4), (.int (0 : Int32)), (.int (0 : Int32))] (.int (0 : Int32)) := V22
  have K23 : Keep h0 h22 [] := K19.wr W22 (Or.inr (by omega))
  have F24 := F20.other W22 (nne (by omega))
  have w25 := w22.pure (mkF m 68 #[.val (.ref a), .val (.int (7 : Int32)), .val (.ref b2)] [(.int c5), (.int (5 : Int32)), (.ref b2)]) (fun X eT hZ hown k => by
      show Steps _ _ _ (State.setTop _ (mkF m 58 #[.val (.ref a), .val (.int (7 : Int32)), .val (.ref b2)] [])) _
      refine S.iloadN X.here hx (hb hby dt7_58) rfl ?_
      refine S.iconst X.here hx (5 : Int32) (hb hby dt7_59) rfl ?_
      refine S.icmpNo X.here hx (hb hby dt7_60) (by decide) ?_
      refine S.aloadN X.here hx (hb hby dt7_63) rfl rfl ?_
      refine S.iconst X.here hx (5 : Int32) (hb hby dt7_64) rfl ?_
      refine S.aloadN X.here hx (hb hby dt7_65) rfl rfl ?_
      refine S.iconst X.here hx (5 : Int32) (hb hby dt7_66) rfl ?_
      refine caV X hx eT hZ F24 (v := (.int c5)) ⟨by decide, by decide⟩ rfl rfl rfl (hb hby dt7_67) ?_
      show Steps _ _ _ (State.setTop _ (mkF m 68 #[.val (.ref a), .val (.int (7 : Int32)), .val (.ref b2)] [(.int c5), (.int (5 : Int32)), (.ref b2)])) _
      exact k)
  obtain ⟨h26, W26, z26, V26, w26⟩ := w25.stC hx U22 5 rfl (Nat.le_of_ble_eq_true rfl) ⟨by decide, by decide⟩ rfl rfl (hb hby dt7_68) (by omega) (mkF m 69 #[.val (.ref a), .val (.int (7 : Int32)), .val (.ref b2)] []) rfl
  rw [nar_rng r5] at V26
  have U26 : Arv Z h26 b2 k2 .char (7 : Int32) [(.int c0), (.int c1), (.int c2), (.int c3), (.int c4), (.int c5), (.int (0 : Int32))] (.int (0 : Int32)) := V26
  have K27 : Keep h0 h26 [] := K23.wr W26 (Or.inr (by omega))
  have F28 := F24.other W26 (nne (by omega))
  have w29 := w26.pure (mkF m 82 #[.val (.ref a), .val (.int (7 : Int32)), .val (.ref b2)] [(.int c6), (.int (6 : Int32)), (.ref b2)]) (fun X eT hZ hown k => by
      show Steps _ _ _ (State.setTop _ (mkF m 69 #[.val (.ref a), .val (.int (7 : Int32)), .val (.ref b2)] [])) _
      refine S.iloadN X.here hx (hb hby dt7_69) rfl ?_
      refine S.bipush X.here hx (6 : Int32) (hb hby dt7_70) rfl ?_
      refine S.icmpNo X.here hx (hb hby dt7_72) (by decide) ?_
      refine S.aloadN X.here hx (hb hby dt7_75) rfl rfl ?_
      refine S.bipush X.here hx (6 : Int32) (hb hby dt7_76) rfl ?_
      refine S.aloadN X.here hx (hb hby dt7_78) rfl rfl ?_
      refine S.bipush X.here hx (6 : Int32) (hb hby dt7_79) rfl ?_
      refine caV X hx eT hZ F28 (v := (.int c6)) ⟨by decide, by decide⟩ rfl rfl rfl (hb hby dt7_81) ?_
      show Steps _ _ _ (State.setTop _ (mkF m 82 #[.val (.ref a), .val (.int (7 : Int32)), .val (.ref b2)] [(.int c6), (.int (6 : Int32)), (.ref b2)])) _
      exact k)
  obtain ⟨h30, W30, z30, V30, w30⟩ := w29.stC hx U26 6 rfl (Nat.le_of_ble_eq_true rfl) ⟨by decide, by decide⟩ rfl rfl (hb hby dt7_82) (by omega) (mkF m 83 #[.val (.ref a), .val (.int (7 : Int32)), .val (.ref b2)] []) rfl
  rw [nar_rng r6] at V30
  have U30 : Arv Z h30 b2 k2 .char (7 : Int32) [(.int c0), (.int c1), (.int c2), (.int c3), (.int c4), (.int c5), (.int c6)] (.int (0 : Int32)) := V30
  have K31 : Keep h0 h30 [] := K27.wr W30 (Or.inr (by omega))
  have w32 := w30.pure (mkF m 97 #[.val (.ref a), .val (.int (7 : Int32)), .val (.ref b2)] []) (fun X eT hZ hown k => by
      show Steps _ _ _ (State.setTop _ (mkF m 83 #[.val (.ref a), .val (.int (7 : Int32)), .val (.ref b2)] [])) _
      refine S.iloadN X.here hx (hb hby dt7_83) rfl ?_
      refine S.bipush X.here hx (7 : Int32) (hb hby dt7_84) rfl ?_
      refine S.icmpYes X.here hx 97 (hb hby dt7_86) (by decide) (by decide) (by decide) ?_
      exact k)
  obtain ⟨b33, h33, g33, E33, l33, A33, D33, y33, w33⟩ := w32.newO hx (hw _ (List.mem_of_getElem? (i := 27) rfl)) (hw _ (List.mem_of_getElem? (i := 2) rfl)) (hw _ (List.mem_of_getElem? (i := 1) rfl)) rfl (hb hby dt7_97) (by decide) (by decide) (fun xq => (mkF m 100 #[.val (.ref a), .val (.int (7 : Int32)), .val (.ref b2)] (.ref xq :: []))) (fun _ => rfl)
  have z33 := E33.1
  have K34 : Keep h0 h33 [] := K31.ext E33
  have D33_4 : Fld Z h33 b33 "java/lang/String" "value" "[B" .null := D33 (Or.inr (hw _ (List.mem_of_getElem? (i := 4) rfl))) (ty := (.array .byte)) (by decide)
  have D33_5 : Fld Z h33 b33 "java/lang/String" "coder" "B" (.int (0 : Int32)) := D33 (Or.inr (hw _ (List.mem_of_getElem? (i := 5) rfl))) (ty := .byte) (by decide)
  have w35 := w33.pure (mkF m 102 #[.val (.ref a), .val (.int (7 : Int32)), .val (.ref b2)] [(.ref b2), (.ref b33), (.ref b33)]) (fun X eT hZ hown k => by
      show Steps _ _ _ (State.setTop _ (mkF m 100 #[.val (.ref a), .val (.int (7 : Int32)), .val (.ref b2)] [(.ref b33)])) _
      refine S.dup X.here hx (hb hby dt7_100) rfl ?_
      refine S.aloadN X.here hx (hb hby dt7_101) rfl rfl ?_
      exact k)
  have F36 := U30.ext E33
  have F37 := X0.ext E2
  have F38 := F37.wr W6 (by omega)
  have F39 := F38.wr W10 (by omega)
  have F40 := F39.wr W14 (by omega)
  have F41 := F40.wr W18 (by omega)
  have F42 := F41.wr W22 (by omega)
  have F43 := F42.wr W26 (by omega)
  have F44 := F43.wr W30 (by omega)
  have F45 := F44.ext E33
  have r46 : ∀ c ∈ ([c0, c1, c2, c3, c4, c5, c6] : List Int32), ¬ c < 0 ∧ ¬ (255 : Int32) < c := (List.forall_mem_cons.mpr ⟨r0, (List.forall_mem_cons.mpr ⟨r1, (List.forall_mem_cons.mpr ⟨r2, (List.forall_mem_cons.mpr ⟨r3, (List.forall_mem_cons.mpr ⟨r4, (List.forall_mem_cons.mpr ⟨r5, (List.forall_mem_cons.mpr ⟨r6, (fun _ q => nomatch q)⟩)⟩)⟩)⟩)⟩)⟩)⟩)
  obtain ⟨v47, h47, Q47, K47, z47, w47⟩ := w35.callI hx (y := (⟨"java/lang/String", "<init>", "([C)V"⟩ : MethodName)) (W := 1) rfl (hw _ (List.mem_of_getElem? (i := 28) rfl)) (hw _ (List.mem_of_getElem? (i := 29) rfl)) (hw _ (List.mem_of_getElem? (i := 30) rfl)) (by decide) (payNew hG w35.hZ hq_backV (hw _ (List.mem_of_getElem? (i := 2) rfl)) [c0, c1, c2, c3, c4, c5, c6] 7 (by omega) A33 D33_4 D33_5 F36 F45 rfl rfl (by decide) (by decide) r46 (by decide) (by decide)) rfl (by rw [hml]; rfl) [(.ref b33)] (lenOf pd_11 rfl) rfl (by show 2 * 0 + _ ≤ _; exact Nat.le_of_eq rfl) (hb hby dt7_102) (by decide) (by decide) (fun _ _ => safe0) (fun rv => (mkF m 105 #[.val (.ref a), .val (.int (7 : Int32)), .val (.ref b2)] (rv.toList ++ [(.ref b33)]))) (fun _ => rfl)
  obtain ⟨rfl, G47⟩ := Q47
  have K48 : Keep h0 h47 [] := K34.trans K47 (allS (Or.inr (by omega)) (fun _ q => nomatch q))
  have lt_b33 := G47.lt
  exact w47.endN (v := some (.ref b33)) (Q := (fun v h => ∃ x, v = some (.ref x) ∧ n0 ≤ x ∧ Str Z h x [c0, c1, c2, c3, c4, c5, c6] h.size)) (wr := []) (h0 := h0) (fun h => by rw [Bd.returns] at h; cases h) Bd.notSynchronized (fun X hr => X.areturnOut hx rfl Bd.returns rfl (hb hby dt7_105) hr) (by decide) (by decide) ⟨b33, rfl, by omega, G47.more (by omega)⟩ K48
theorem dt8_0 : decode method_3_code 0 = .ok (.iload_n 1, 1) := by decide +kernel
theorem dt8_1 : decode method_3_code 1 = .ok (.newarray .char, 2) := by decide +kernel
theorem dt8_3 : decode method_3_code 3 = .ok (.astore_n 2, 1) := by decide +kernel
theorem dt8_4 : decode method_3_code 4 = .ok (.iload_n 1, 1) := by decide +kernel
theorem dt8_5 : decode method_3_code 5 = .ok (.ifCond .le 9, 3) := by decide +kernel
theorem dt8_8 : decode method_3_code 8 = .ok (.aload_n 2, 1) := by decide +kernel
theorem dt8_9 : decode method_3_code 9 = .ok (.iconst 0, 1) := by decide +kernel
theorem dt8_10 : decode method_3_code 10 = .ok (.aload_n 0, 1) := by decide +kernel
theorem dt8_11 : decode method_3_code 11 = .ok (.iconst 0, 1) := by decide +kernel
theorem dt8_12 : decode method_3_code 12 = .ok (.caload, 1) := by decide +kernel
theorem dt8_13 : decode method_3_code 13 = .ok (.castore, 1) := by decide +kernel
theorem dt8_14 : decode method_3_code 14 = .ok (.iload_n 1, 1) := by decide +kernel
theorem dt8_15 : decode method_3_code 15 = .ok (.iconst 1, 1) := by decide +kernel
theorem dt8_16 : decode method_3_code 16 = .ok (.if_icmp .le 9, 3) := by decide +kernel
theorem dt8_19 : decode method_3_code 19 = .ok (.aload_n 2, 1) := by decide +kernel
theorem dt8_20 : decode method_3_code 20 = .ok (.iconst 1, 1) := by decide +kernel
theorem dt8_21 : decode method_3_code 21 = .ok (.aload_n 0, 1) := by decide +kernel
theorem dt8_22 : decode method_3_code 22 = .ok (.iconst 1, 1) := by decide +kernel
theorem dt8_23 : decode method_3_code 23 = .ok (.caload, 1) := by decide +kernel
theorem dt8_24 : decode method_3_code 24 = .ok (.castore, 1) := by decide +kernel
theorem dt8_25 : decode method_3_code 25 = .ok (.iload_n 1, 1) := by decide +kernel
theorem dt8_26 : decode method_3_code 26 = .ok (.iconst 2, 1) := by decide +kernel
theorem dt8_27 : decode method_3_code 27 = .ok (.if_icmp .le 9, 3) := by decide +kernel
theorem dt8_30 : decode method_3_code 30 = .ok (.aload_n 2, 1) := by decide +kernel
theorem dt8_31 : decode method_3_code 31 = .ok (.iconst 2, 1) := by decide +kernel
theorem dt8_32 : decode method_3_code 32 = .ok (.aload_n 0, 1) := by decide +kernel
theorem dt8_33 : decode method_3_code 33 = .ok (.iconst 2, 1) := by decide +kernel
theorem dt8_34 : decode method_3_code 34 = .ok (.caload, 1) := by decide +kernel
theorem dt8_35 : decode method_3_code 35 = .ok (.castore, 1) := by decide +kernel
theorem dt8_36 : decode method_3_code 36 = .ok (.iload_n 1, 1) := by decide +kernel
theorem dt8_37 : decode method_3_code 37 = .ok (.iconst 3, 1) := by decide +kernel
theorem dt8_38 : decode method_3_code 38 = .ok (.if_icmp .le 9, 3) := by decide +kernel
theorem dt8_41 : decode method_3_code 41 = .ok (.aload_n 2, 1) := by decide +kernel
theorem dt8_42 : decode method_3_code 42 = .ok (.iconst 3, 1) := by decide +kernel
theorem dt8_43 : decode method_3_code 43 = .ok (.aload_n 0, 1) := by decide +kernel
theorem dt8_44 : decode method_3_code 44 = .ok (.iconst 3, 1) := by decide +kernel
theorem dt8_45 : decode method_3_code 45 = .ok (.caload, 1) := by decide +kernel
theorem dt8_46 : decode method_3_code 46 = .ok (.castore, 1) := by decide +kernel
theorem dt8_47 : decode method_3_code 47 = .ok (.iload_n 1, 1) := by decide +kernel
theorem dt8_48 : decode method_3_code 48 = .ok (.iconst 4, 1) := by decide +kernel
theorem dt8_49 : decode method_3_code 49 = .ok (.if_icmp .le 9, 3) := by decide +kernel
theorem dt8_52 : decode method_3_code 52 = .ok (.aload_n 2, 1) := by decide +kernel
theorem dt8_53 : decode method_3_code 53 = .ok (.iconst 4, 1) := by decide +kernel
theorem dt8_54 : decode method_3_code 54 = .ok (.aload_n 0, 1) := by decide +kernel
theorem dt8_55 : decode method_3_code 55 = .ok (.iconst 4, 1) := by decide +kernel
theorem dt8_56 : decode method_3_code 56 = .ok (.caload, 1) := by decide +kernel
theorem dt8_57 : decode method_3_code 57 = .ok (.castore, 1) := by decide +kernel
theorem dt8_58 : decode method_3_code 58 = .ok (.iload_n 1, 1) := by decide +kernel
theorem dt8_59 : decode method_3_code 59 = .ok (.iconst 5, 1) := by decide +kernel
theorem dt8_60 : decode method_3_code 60 = .ok (.if_icmp .le 9, 3) := by decide +kernel
theorem dt8_63 : decode method_3_code 63 = .ok (.aload_n 2, 1) := by decide +kernel
theorem dt8_64 : decode method_3_code 64 = .ok (.iconst 5, 1) := by decide +kernel
theorem dt8_65 : decode method_3_code 65 = .ok (.aload_n 0, 1) := by decide +kernel
theorem dt8_66 : decode method_3_code 66 = .ok (.iconst 5, 1) := by decide +kernel
theorem dt8_67 : decode method_3_code 67 = .ok (.caload, 1) := by decide +kernel
theorem dt8_68 : decode method_3_code 68 = .ok (.castore, 1) := by decide +kernel
theorem dt8_69 : decode method_3_code 69 = .ok (.iload_n 1, 1) := by decide +kernel
theorem dt8_70 : decode method_3_code 70 = .ok (.bipush 6, 2) := by decide +kernel
theorem dt8_72 : decode method_3_code 72 = .ok (.if_icmp .le 11, 3) := by decide +kernel
theorem dt8_75 : decode method_3_code 75 = .ok (.aload_n 2, 1) := by decide +kernel
theorem dt8_76 : decode method_3_code 76 = .ok (.bipush 6, 2) := by decide +kernel
theorem dt8_78 : decode method_3_code 78 = .ok (.aload_n 0, 1) := by decide +kernel
theorem dt8_79 : decode method_3_code 79 = .ok (.bipush 6, 2) := by decide +kernel
theorem dt8_81 : decode method_3_code 81 = .ok (.caload, 1) := by decide +kernel
theorem dt8_82 : decode method_3_code 82 = .ok (.castore, 1) := by decide +kernel
theorem dt8_83 : decode method_3_code 83 = .ok (.iload_n 1, 1) := by decide +kernel
theorem dt8_84 : decode method_3_code 84 = .ok (.bipush 7, 2) := by decide +kernel
theorem dt8_86 : decode method_3_code 86 = .ok (.if_icmp .le 11, 3) := by decide +kernel
theorem dt8_89 : decode method_3_code 89 = .ok (.aload_n 2, 1) := by decide +kernel
theorem dt8_90 : decode method_3_code 90 = .ok (.bipush 7, 2) := by decide +kernel
theorem dt8_92 : decode method_3_code 92 = .ok (.aload_n 0, 1) := by decide +kernel
theorem dt8_93 : decode method_3_code 93 = .ok (.bipush 7, 2) := by decide +kernel
theorem dt8_95 : decode method_3_code 95 = .ok (.caload, 1) := by decide +kernel
theorem dt8_96 : decode method_3_code 96 = .ok (.castore, 1) := by decide +kernel
theorem dt8_97 : decode method_3_code 97 = .ok (.new 9, 3) := by decide +kernel
theorem dt8_100 : decode method_3_code 100 = .ok (.dup, 1) := by decide +kernel
theorem dt8_101 : decode method_3_code 101 = .ok (.aload_n 2, 1) := by decide +kernel
theorem dt8_102 : decode method_3_code 102 = .ok (.invokespecial 11, 3) := by decide +kernel
theorem dt8_105 : decode method_3_code 105 = .ok (.areturn, 1) := by decide +kernel
theorem eft8 (m : MethodId) (x0 : Nat) (x1 : Int32) : entryFrame m #[(.ref x0), (.int x1)] 3 = mkF m 0 #[.val (.ref x0), .val (.int x1), .unset] [] := by first | (simp [entryFrame, mkF, argsToLocals, Value.category, maxLocals]; done) | rfl
set_option maxRecDepth 65536 in
set_option maxHeartbeats 40000000 in
theorem rmt8 (l : Launch) (Z : State) (a0 : Array Value) (hw : ∀ d ∈ tables_1, d.before a0 Z = true) (a : Nat) (k : ClassId) (c0 c1 c2 c3 c4 c5 c6 c7 : Int32) (h0 : Heap) (n0 : Nat) (Z0 : n0 ≤ h0.size) (hG : SetsOk Z) (X0 : Old Z n0 h0) (V0 : Arv Z h0 a k .char (8 : Int32) [(.int c0), (.int c1), (.int c2), (.int c3), (.int c4), (.int c5), (.int c6), (.int c7)] (.int (0 : Int32))) (r0 : ¬ c0 < 0 ∧ ¬ (255 : Int32) < c0) (r1 : ¬ c1 < 0 ∧ ¬ (255 : Int32) < c1) (r2 : ¬ c2 < 0 ∧ ¬ (255 : Int32) < c2) (r3 : ¬ c3 < 0 ∧ ¬ (255 : Int32) < c3) (r4 : ¬ c4 < 0 ∧ ¬ (255 : Int32) < c4) (r5 : ¬ c5 < 0 ∧ ¬ (255 : Int32) < c5) (r6 : ¬ c6 < 0 ∧ ¬ (255 : Int32) < c6) (r7 : ¬ c7 < 0 ∧ ¬ (255 : Int32) < c7) :
    NMet l Z (⟨"com/example/bylaw/bylaw/TreePathParentPinLaw", "str", "([CI)Ljava/lang/String;"⟩ : MethodName) method_3_code 3 (some (.object "java/lang/String")) [] ({ frames := 4, cells := 3, slots := 20, locals := 66 } : Room) [(.ref a), (.int (8 : Int32))] h0 n0 [] (fun v h => ∃ x, v = some (.ref x) ∧ n0 ≤ x ∧ Str Z h x [c0, c1, c2, c3, c4, c5, c6, c7] h.size) := by
  refine MetFree.of_bodySF pn_15 hisR ?_
  intro p e s m args below meth c s₁ Bd hml0 hP hK
  obtain ⟨rfl, hZ, hh⟩ := hP
  have hx := Bd.exec
  have hby := Bd.bytes
  have hml : c.maxLocals = 3 := hml0
  have hnm := (name_of_methodNamed Bd.named Bd.method).1
  have w0 := Wk.start (a0 := a0) (EL := []) (n0 := n0) (nw := true) Bd hZ hh EW.nil chv0 (eft8 m a (8 : Int32)) ({ frames := 4, cells := 3, slots := 20, locals := 66 } : Room) rfl
  have K0 : Keep h0 h0 [] := Keep.refl _ _
  have lt_V0 := arlt V0
  have hq_backV : ∀ d ∈ StrChars.Road.words, d.before a0 Z = true := fun d hd => hw d ((by decide +kernel : ∀ d ∈ StrChars.Road.words, d ∈ tables_1) d hd)
  have w1 := w0.pure (mkF m 1 #[.val (.ref a), .val (.int (8 : Int32)), .unset] [(.int (8 : Int32))]) (fun X eT hZ hown k => by
      show Steps _ _ _ (State.setTop _ (mkF m 0 #[.val (.ref a), .val (.int (8 : Int32)), .unset] [])) _
      refine S.iloadN X.here hx (hb hby dt8_0) rfl ?_
      exact k)
  obtain ⟨b2, h2, k2, g2, E2, l2, A2, y2, w2⟩ := w1.newP hx (hw _ (List.mem_of_getElem? (i := 18) rfl)) rfl (hb hby dt8_1) rfl (by decide) 8 (by decide) (by decide) (by decide) (by decide) (fun xq => (mkF m 3 #[.val (.ref a), .val (.int (8 : Int32)), .unset] (.ref xq :: []))) (fun _ => rfl)
  have z2 := E2.1
  have K3 : Keep h0 h2 [] := K0.ext E2
  have V2 : Arv Z h2 b2 k2 .char (8 : Int32) [(.int (0 : Int32)), (.int (0 : Int32)), (.int (0 : Int32)), (.int (0 : Int32)), (.int (0 : Int32)), (.int (0 : Int32)), (.int (0 : Int32)), (.int (0 : Int32))] (.int (0 : Int32)) := A2.pad (pad_rep [] (.int (0 : Int32)) 8)
  have F4 := V0.ext E2
  have w5 := w2.pure (mkF m 13 #[.val (.ref a), .val (.int (8 : Int32)), .val (.ref b2)] [(.int c0), (.int (0 : Int32)), (.ref b2)]) (fun X eT hZ hown k => by
      show Steps _ _ _ (State.setTop _ (mkF m 3 #[.val (.ref a), .val (.int (8 : Int32)), .unset] [(.ref b2)])) _
      refine S.astoreN X.here hx (hb hby dt8_3) rfl #[.val (.ref a), .val (.int (8 : Int32)), .val (.ref b2)] rfl ?_
      refine S.iloadN X.here hx (hb hby dt8_4) rfl ?_
      refine S.ifNo X.here hx (hb hby dt8_5) (by decide) ?_
      refine S.aloadN X.here hx (hb hby dt8_8) rfl rfl ?_
      refine S.iconst X.here hx (0 : Int32) (hb hby dt8_9) rfl ?_
      refine S.aloadN X.here hx (hb hby dt8_10) rfl rfl ?_
      refine S.iconst X.here hx (0 : Int32) (hb hby dt8_11) rfl ?_
      refine caV X hx eT hZ F4 (v := (.int c0)) ⟨by decide, by decide⟩ rfl rfl rfl (hb hby dt8_12) ?_
      show Steps _ _ _ (State.setTop _ (mkF m 13 #[.val (.ref a), .val (.int (8 : Int32)), .val (.ref b2)] [(.int c0), (.int (0 : Int32)), (.ref b2)])) _
      exact k)
  obtain ⟨h6, W6, z6, V6, w6⟩ := w5.stC hx V2 0 rfl (Nat.le_of_ble_eq_true rfl) ⟨by decide, by decide⟩ rfl rfl (hb hby dt8_13) (by omega) (mkF m 14 #[.val (.ref a), .val (.int (8 : Int32)), .val (.ref b2)] []) rfl
  rw [nar_rng r0] at V6
  have U6 : Arv Z h6 b2 k2 .char (8 : Int32) [(.int c0), (.int (0 : Int32)), (.int (0 : Int32)), (.int (0 : Int32)), (.int (0 : Int32)), (.int (0 : Int32)), (.int (0 : Int32)), (.int (0 : Int32))] (.int (0 : Int32)) := V6
  have K7 : Keep h0 h6 [] := K3.wr W6 (Or.inr (by omega))
  have F8 := F4.other W6 (nne (by omega))
  have w9 := w6.pure (mkF m 24 #[.val (.ref a), .val (.int (8 : Int32)), .val (.ref b2)] [(.int c1), (.int (1 : Int32)), (.ref b2)]) (fun X eT hZ hown k => by
      show Steps _ _ _ (State.setTop _ (mkF m 14 #[.val (.ref a), .val (.int (8 : Int32)), .val (.ref b2)] [])) _
      refine S.iloadN X.here hx (hb hby dt8_14) rfl ?_
      refine S.iconst X.here hx (1 : Int32) (hb hby dt8_15) rfl ?_
      refine S.icmpNo X.here hx (hb hby dt8_16) (by decide) ?_
      refine S.aloadN X.here hx (hb hby dt8_19) rfl rfl ?_
      refine S.iconst X.here hx (1 : Int32) (hb hby dt8_20) rfl ?_
      refine S.aloadN X.here hx (hb hby dt8_21) rfl rfl ?_
      refine S.iconst X.here hx (1 : Int32) (hb hby dt8_22) rfl ?_
      refine caV X hx eT hZ F8 (v := (.int c1)) ⟨by decide, by decide⟩ rfl rfl rfl (hb hby dt8_23) ?_
      show Steps _ _ _ (State.setTop _ (mkF m 24 #[.val (.ref a), .val (.int (8 : Int32)), .val (.ref b2)] [(.int c1), (.int (1 : Int32)), (.ref b2)])) _
      exact k)
  obtain ⟨h10, W10, z10, V10, w10⟩ := w9.stC hx U6 1 rfl (Nat.le_of_ble_eq_true rfl) ⟨by decide, by decide⟩ rfl rfl (hb hby dt8_24) (by omega) (mkF m 25 #[.val (.ref a), .val (.int (8 : Int32)), .val (.ref b2)] []) rfl
  rw [nar_rng r1] at V10
  have U10 : Arv Z h10 b2 k2 .char (8 : Int32) [(.int c0), (.int c1), (.int (0 : Int32)), (.int (0 : Int32)), (.int (0 : Int32)), (.int (0 : Int32)), (.int (0 : Int32)), (.int (0 : Int32))] (.int (0 : Int32)) := V10
  have K11 : Keep h0 h10 [] := K7.wr W10 (Or.inr (by omega))
  have F12 := F8.other W10 (nne (by omega))
  have w13 := w10.pure (mkF m 35 #[.val (.ref a), .val (.int (8 : Int32)), .val (.ref b2)] [(.int c2), (.int (2 : Int32)), (.ref b2)]) (fun X eT hZ hown k => by
      show Steps _ _ _ (State.setTop _ (mkF m 25 #[.val (.ref a), .val (.int (8 : Int32)), .val (.ref b2)] [])) _
      refine S.iloadN X.here hx (hb hby dt8_25) rfl ?_
      refine S.iconst X.here hx (2 : Int32) (hb hby dt8_26) rfl ?_
      refine S.icmpNo X.here hx (hb hby dt8_27) (by decide) ?_
      refine S.aloadN X.here hx (hb hby dt8_30) rfl rfl ?_
      refine S.iconst X.here hx (2 : Int32) (hb hby dt8_31) rfl ?_
      refine S.aloadN X.here hx (hb hby dt8_32) rfl rfl ?_
      refine S.iconst X.here hx (2 : Int32) (hb hby dt8_33) rfl ?_
      refine caV X hx eT hZ F12 (v := (.int c2)) ⟨by decide, by decide⟩ rfl rfl rfl (hb hby dt8_34) ?_
      show Steps _ _ _ (State.setTop _ (mkF m 35 #[.val (.ref a), .val (.int (8 : Int32)), .val (.ref b2)] [(.int c2), (.int (2 : Int32)), (.ref b2)])) _
      exact k)
  obtain ⟨h14, W14, z14, V14, w14⟩ := w13.stC hx U10 2 rfl (Nat.le_of_ble_eq_true rfl) ⟨by decide, by decide⟩ rfl rfl (hb hby dt8_35) (by omega) (mkF m 36 #[.val (.ref a), .val (.int (8 : Int32)), .val (.ref b2)] []) rfl
  rw [nar_rng r2] at V14
  have U14 : Arv Z h14 b2 k2 .char (8 : Int32) [(.int c0), (.int c1), (.int c2), (.int (0 : Int32)), (.int (0 : Int32)), (.int (0 : Int32)), (.int (0 : Int32)), (.int (0 : Int32))] (.int (0 : Int32)) := V14
  have K15 : Keep h0 h14 [] := K11.wr W14 (Or.inr (by omega))
  have F16 := F12.other W14 (nne (by omega))
  have w17 := w14.pure (mkF m 46 #[.val (.ref a), .val (.int (8 : Int32)), .val (.ref b2)] [(.int c3), (.int (3 : Int32)), (.ref b2)]) (fun X eT hZ hown k => by
      show Steps _ _ _ (State.setTop _ (mkF m 36 #[.val (.ref a), .val (.int (8 : Int32)), .val (.ref b2)] [])) _
      refine S.iloadN X.here hx (hb hby dt8_36) rfl ?_
      refine S.iconst X.here hx (3 : Int32) (hb hby dt8_37) rfl ?_
      refine S.icmpNo X.here hx (hb hby dt8_38) (by decide) ?_
      refine S.aloadN X.here hx (hb hby dt8_41) rfl rfl ?_
      refine S.iconst X.here hx (3 : Int32) (hb hby dt8_42) rfl ?_
      refine S.aloadN X.here hx (hb hby dt8_43) rfl rfl ?_
      refine S.iconst X.here hx (3 : Int32) (hb hby dt8_44) rfl ?_
      refine caV X hx eT hZ F16 (v := (.int c3)) ⟨by decide, by decide⟩ rfl rfl rfl (hb hby dt8_45) ?_
      show Steps _ _ _ (State.setTop _ (mkF m 46 #[.val (.ref a), .val (.int (8 : Int32)), .val (.ref b2)] [(.int c3), (.int (3 : Int32)), (.ref b2)])) _
      exact k)
  obtain ⟨h18, W18, z18, V18, w18⟩ := w17.stC hx U14 3 rfl (Nat.le_of_ble_eq_true rfl) ⟨by decide, by decide⟩ rfl rfl (hb hby dt8_46) (by omega) (mkF m 47 #[.val (.ref a), .val (.int (8 : Int32)), .val (.ref b2)] []) rfl
  rw [nar_rng r3] at V18
  have U18 : Arv Z h18 b2 k2 .char (8 : Int32) [(.int c0), (.int c1), (.int c2), (.int c3), (.int (0 : Int32)), (.int (0 : Int32)), (.int (0 : Int32)), (.int (0 : Int32))] (.int (0 : Int32)) := V18
  have K19 : Keep h0 h18 [] := K15.wr W18 (Or.inr (by omega))
  have F20 := F16.other W18 (nne (by omega))
  have w21 := w18.pure (mkF m 57 #[.val (.ref a), .val (.int (8 : Int32)), .val (.ref b2)] [(.int c4), (.int (4 : Int32)), (.ref b2)]) (fun X eT hZ hown k => by
      show Steps _ _ _ (State.setTop _ (mkF m 47 #[.val (.ref a), .val (.int (8 : Int32)), .val (.ref b2)] [])) _
      refine S.iloadN X.here hx (hb hby dt8_47) rfl ?_
      refine S.iconst X.here hx (4 : Int32) (hb hby dt8_48) rfl ?_
      refine S.icmpNo X.here hx (hb hby dt8_49) (by decide) ?_
      refine S.aloadN X.here hx (hb hby dt8_52) rfl rfl ?_
      refine S.iconst X.here hx (4 : Int32) (hb hby dt8_53) rfl ?_
      refine S.aloadN X.here hx (hb hby dt8_54) rfl rfl ?_
      refine S.iconst X.here hx (4 : Int32) (hb hby dt8_55) rfl ?_
      refine caV X hx eT hZ F20 (v := (.int c4)) ⟨by decide, by decide⟩ rfl rfl rfl (hb hby dt8_56) ?_
      show Steps _ _ _ (State.setTop _ (mkF m 57 #[.val (.ref a), .val (.int (8 : Int32)), .val (.ref b2)] [(.int c4), (.int (4 : Int32)), (.ref b2)])) _
      exact k)
  obtain ⟨h22, W22, z22, V22, w22⟩ := w21.stC hx U18 4 rfl (Nat.le_of_ble_eq_true rfl) ⟨by decide, by decide⟩ rfl rfl (hb hby dt8_57) (by omega) (mkF m 58 #[.val (.ref a), .val (.int (8 : Int32)), .val (.ref b2)] []) rfl
  rw [nar_rng r4] at V22
  have U22 : Arv Z h22 b2 k2 .char (8 : Int32) [(.int c0), (.int c1), (.int c2), (.int c3), (.int c4), (.int (0 : Int32)), (.int (0 : Int32)), (.int (0 : Int32))] (.int (0 : Int32)) := V22
  have K23 : Keep h0 h22 [] := K19.wr W22 (Or.inr (by omega))
  have F24 := F20.other W22 (nne (by omega))
  have w25 := w22.pure (mkF m 68 #[.val (.ref a), .val (.int (8 : Int32)), .val (.ref b2)] [(.int c5), (.int (5 : Int32)), (.ref b2)]) (fun X eT hZ hown k => by
      show Steps _ _ _ (State.setTop _ (mkF m 58 #[.val (.ref a), .val (.int (8 : Int32)), .val (.ref b2)] [])) _
      refine S.iloadN X.here hx (hb hby dt8_58) rfl ?_
      refine S.iconst X.here hx (5 : Int32) (hb hby dt8_59) rfl ?_
      refine S.icmpNo X.here hx (hb hby dt8_60) (by decide) ?_
      refine S.aloadN X.here hx (hb hby dt8_63) rfl rfl ?_
      refine S.iconst X.here hx (5 : Int32) (hb hby dt8_64) rfl ?_
      refine S.aloadN X.here hx (hb hby dt8_65) rfl rfl ?_
      refine S.iconst X.here hx (5 : Int32) (hb hby dt8_66) rfl ?_
      refine caV X hx eT hZ F24 (v := (.int c5)) ⟨by decide, by decide⟩ rfl rfl rfl (hb hby dt8_67) ?_
      show Steps _ _ _ (State.setTop _ (mkF m 68 #[.val (.ref a), .val (.int (8 : Int32)), .val (.ref b2)] [(.int c5), (.int (5 : Int32)), (.ref b2)])) _
      exact k)
  obtain ⟨h26, W26, z26, V26, w26⟩ := w25.stC hx U22 5 rfl (Nat.le_of_ble_eq_true rfl) ⟨by decide, by decide⟩ rfl rfl (hb hby dt8_68) (by omega) (mkF m 69 #[.val (.ref a), .val (.int (8 : Int32)), .val (.ref b2)] []) rfl
  rw [nar_rng r5] at V26
  have U26 : Arv Z h26 b2 k2 .char (8 : Int32) [(.int c0), (.int c1), (.int c2), (.int c3), (.int c4), (.int c5), (.int (0 : Int32)), (.int (0 : Int32))] (.int (0 : Int32)) := V26
  have K27 : Keep h0 h26 [] := K23.wr W26 (Or.inr (by omega))
  have F28 := F24.other W26 (nne (by omega))
  have w29 := w26.pure (mkF m 82 #[.val (.ref a), .val (.int (8 : Int32)), .val (.ref b2)] [(.int c6), (.int (6 : Int32)), (.ref b2)]) (fun X eT hZ hown k => by
      show Steps _ _ _ (State.setTop _ (mkF m 69 #[.val (.ref a), .val (.int (8 : Int32)), .val (.ref b2)] [])) _
      refine S.iloadN X.here hx (hb hby dt8_69) rfl ?_
      refine S.bipush X.here hx (6 : Int32) (hb hby dt8_70) rfl ?_
      refine S.icmpNo X.here hx (hb hby dt8_72) (by decide) ?_
      refine S.aloadN X.here hx (hb hby dt8_75) rfl rfl ?_
      refine S.bipush X.here hx (6 : Int32) (hb hby dt8_76) rfl ?_
      refine S.aloadN X.here hx (hb hby dt8_78) rfl rfl ?_
      refine S.bipush X.here hx (6 : Int32) (hb hby dt8_79) rfl ?_
      refine caV X hx eT hZ F28 (v := (.int c6)) ⟨by decide, by decide⟩ rfl rfl rfl (hb hby dt8_81) ?_
      show Steps _ _ _ (State.setTop _ (mkF m 82 #[.val (.ref a), .val (.int (8 : Int32)), .val (.ref b2)] [(.int c6), (.int (6 : Int32)), (.ref b2)])) _
      exact k)
  obtain ⟨h30, W30, z30, V30, w30⟩ := w29.stC hx U26 6 rfl (Nat.le_of_ble_eq_true rfl) ⟨by decide, by decide⟩ rfl rfl (hb hby dt8_82) (by omega) (mkF m 83 #[.val (.ref a), .val (.int (8 : Int32)), .val (.ref b2)] []) rfl
  rw [nar_rng r6] at V30
  have U30 : Arv Z h30 b2 k2 .char (8 : Int32) [(.int c0), (.int c1), (.int c2), (.int c3), (.int c4), (.int c5), (.int c6), (.int (0 : Int32))] (.int (0 : Int32)) := V30
  have K31 : Keep h0 h30 [] := K27.wr W30 (Or.inr (by omega))
  have F32 := F28.other W30 (nne (by omega))
  have w33 := w30.pure (mkF m 96 #[.val (.ref a), .val (.int (8 : Int32)), .val (.ref b2)] [(.int c7), (.int (7 : Int32)), (.ref b2)]) (fun X eT hZ hown k => by
      show Steps _ _ _ (State.setTop _ (mkF m 83 #[.val (.ref a), .val (.int (8 : Int32)), .val (.ref b2)] [])) _
      refine S.iloadN X.here hx (hb hby dt8_83) rfl ?_
      refine S.bipush X.here hx (7 : Int32) (hb hby dt8_84) rfl ?_
      refine S.icmpNo X.here hx (hb hby dt8_86) (by decide) ?_
      refine S.aloadN X.here hx (hb hby dt8_89) rfl rfl ?_
      refine S.bipush X.here hx (7 : Int32) (hb hby dt8_90) rfl ?_
      refine S.aloadN X.here hx (hb hby dt8_92) rfl rfl ?_
      refine S.bipush X.here hx (7 : Int32) (hb hby dt8_93) rfl ?_
      refine caV X hx eT hZ F32 (v := (.int c7)) ⟨by decide, by decide⟩ rfl rfl rfl (hb hby dt8_95) ?_
      show Steps _ _ _ (State.setTop _ (mkF m 96 #[.val (.ref a), .val (.int (8 : Int32)), .val (.ref b2)] [(.int c7), (.int (7 : Int32)), (.ref b2)])) _
      exact k)
  obtain ⟨h34, W34, z34, V34, w34⟩ := w33.stC hx U30 7 rfl (Nat.le_of_ble_eq_true rfl) ⟨by decide, by decide⟩ rfl rfl (hb hby dt8_96) (by omega) (mkF m 97 #[.val (.ref a), .val (.int (8 : Int32)), .val (.ref b2)] []) rfl
  rw [nar_rng r7] at V34
  have U34 : Arv Z h34 b2 k2 .char (8 : Int32) [(.int c0), (.int c1), (.int c2), (.int c3), (.int c4), (.int c5), (.int c6), (.int c7)] (.int (0 : Int32)) := V34
  have K35 : Keep h0 h34 [] := K31.wr W34 (Or.inr (by omega))
  obtain ⟨b36, h36, g36, E36, l36, A36, D36, y36, w36⟩ := w34.newO hx (hw _ (List.mem_of_getElem? (i := 27) rfl)) (hw _ (List.mem_of_getElem? (i := 2) rfl)) (hw _ (List.mem_of_getElem? (i := 1) rfl)) rfl (hb hby dt8_97) (by decide) (by decide) (fun xq => (mkF m 100 #[.val (.ref a), .val (.int (8 : Int32)), .val (.ref b2)] (.ref xq :: []))) (fun _ => rfl)
  have z36 := E36.1
  have K37 : Keep h0 h36 [] := K35.ext E36
  have D36_4 : Fld Z h36 b36 "java/lang/String" "value" "[B" .null := D36 (Or.inr (hw _ (List.mem_of_getElem? (i := 4) rfl))) (ty := (.array .byte)) (by decide)
  have D36_5 : Fld Z h36 b36 "java/lang/String" "coder" "B" (.int (0 : Int32)) := D36 (Or.inr (hw _ (List.mem_of_getElem? (i := 5) rfl))) (ty := .byte) (by decide)
  have w38 := w36.pure (mkF m 102 #[.val (.ref a), .val (.int (8 : Int32)), .val (.ref b2)] [(.ref b2), (.ref b36), (.ref b36)]) (fun X eT hZ hown k => by
      show Steps _ _ _ (State.setTop _ (mkF m 100 #[.val (.ref a), .val (.int (8 : Int32)), .val (.ref b2)] [(.ref b36)])) _
      refine S.dup X.here hx (hb hby dt8_100) rfl ?_
      refine S.aloadN X.here hx (hb hby dt8_101) rfl rfl ?_
      exact k)
  have F39 := U34.ext E36
  have F40 := X0.ext E2
  have F41 := F40.wr W6 (by omega)
  have F42 := F41.wr W10 (by omega)
  have F43 := F42.wr W14 (by omega)
  have F44 := F43.wr W18 (by omega)
  have F45 := F44.wr W22 (by omega)
  have F46 := F45.wr W26 (by omega)
  have F47 := F46.wr W30 (by omega)
  have F48 := F47.wr W34 (by omega)
  have F49 := F48.ext E36
  have r50 : ∀ c ∈ ([c0, c1, c2, c3, c4, c5, c6, c7] : List Int32), ¬ c < 0 ∧ ¬ (255 : Int32) < c := (List.forall_mem_cons.mpr ⟨r0, (List.forall_mem_cons.mpr ⟨r1, (List.forall_mem_cons.mpr ⟨r2, (List.forall_mem_cons.mpr ⟨r3, (List.forall_mem_cons.mpr ⟨r4, (List.forall_mem_cons.mpr ⟨r5, (List.forall_mem_cons.mpr ⟨r6, (List.forall_mem_cons.mpr ⟨r7, (fun _ q => nomatch q)⟩)⟩)⟩)⟩)⟩)⟩)⟩)⟩)
  obtain ⟨v51, h51, Q51, K51, z51, w51⟩ := w38.callI hx (y := (⟨"java/lang/String", "<init>", "([C)V"⟩ : MethodName)) (W := 1) rfl (hw _ (List.mem_of_getElem? (i := 28) rfl)) (hw _ (List.mem_of_getElem? (i := 29) rfl)) (hw _ (List.mem_of_getElem? (i := 30) rfl)) (by decide) (payNew hG w38.hZ hq_backV (hw _ (List.mem_of_getElem? (i := 2) rfl)) [c0, c1, c2, c3, c4, c5, c6, c7] 8 (by omega) A36 D36_4 D36_5 F39 F49 rfl rfl (by decide) (by decide) r50 (by decide) (by decide)) rfl (by rw [hml]; rfl) [(.ref b36)] (lenOf pd_11 rfl) rfl (by show 2 * 0 + _ ≤ _; exact Nat.le_of_eq rfl) (hb hby dt8_102) (by decide) (by decide) (fun _ _ => safe0) (fun rv => (mkF m 105 #[.val (.ref a), .val (.int (8 : Int32)), .val (.ref b2)] (rv.toList ++ [(.ref b36)]))) (fun _ => rfl)
  obtain ⟨rfl, G51⟩ := Q51
  have K52 : Keep h0 h51 [] := K37.trans K51 (allS (Or.inr (by omega)) (fun _ q => nomatch q))
  have lt_b36 := G51.lt
  exact w51.endN (v := some (.ref b36)) (Q := (fun v h => ∃ x, v = some (.ref x) ∧ n0 ≤ x ∧ Str Z h x [c0, c1, c2, c3, c4, c5, c6, c7] h.size)) (wr := []) (h0 := h0) (fun h => by rw [Bd.returns] at h; cases h) Bd.notSynchronized (fun X hr => X.areturnOut hx rfl Bd.returns rfl (hb hby dt8_105) hr) (by decide) (by decide) ⟨b36, rfl, by omega, G51.more (by omega)⟩ K52
theorem pd_12 : parseMethodDescriptor "(Ljava/lang/Object;)Z" = some ⟨[(.object "java/lang/Object")], some .boolean⟩ := by decide +kernel
theorem dpn_0 : decode prog_19_method_5_code 0 = .ok (.aload_n 0, 1) := by decide +kernel
theorem dpn_1 : decode prog_19_method_5_code 1 = .ok (.ldc 9, 2) := by decide +kernel
theorem dpn_3 : decode prog_19_method_5_code 3 = .ok (.invokevirtual 11, 3) := by decide +kernel
theorem dpn_6 : decode prog_19_method_5_code 6 = .ok (.ifCond .eq 5, 3) := by decide +kernel
theorem dpn_9 : decode prog_19_method_5_code 9 = .ok (.aconst_null, 1) := by decide +kernel
theorem dpn_10 : decode prog_19_method_5_code 10 = .ok (.areturn, 1) := by decide +kernel
theorem efpn (m : MethodId) (x0 : Nat) : entryFrame m #[(.ref x0)] 2 = mkF m 0 #[.val (.ref x0), .unset] [] := by first | (simp [entryFrame, mkF, argsToLocals, Value.category, maxLocals]; done) | rfl
theorem pn_16 : plainFor (⟨"com/example/bylaw/bylaw/TreePath", "parent", "(Ljava/lang/String;)Ljava/lang/String;"⟩ : MethodName) = true := by first | decide +kernel | (apply plainFor_of_name; simp [plainName, overriddenIn]; done)
set_option maxRecDepth 65536 in
set_option maxHeartbeats 40000000 in
theorem rmpn (l : Launch) (Z : State) (a0 : Array Value) (hw : ∀ d ∈ tables_1, d.before a0 Z = true) (hE : EW Z a0 consts_1) (x : Nat) (b : Nat) (h0 : Heap) (n0 : Nat) (Z0 : n0 ≤ h0.size) (hG : SetsOk Z) (X0 : Old Z n0 h0) (Sx : Str Z h0 x [(47 : Int32)] b) :
    WMet l Z consts_1 (⟨"com/example/bylaw/bylaw/TreePath", "parent", "(Ljava/lang/String;)Ljava/lang/String;"⟩ : MethodName) prog_19_method_5_code 2 (some (.object "java/lang/String")) [] ({ frames := 2, cells := 2, slots := 8, locals := 28 } : Room) [(.ref x)] h0 n0 [] [] (fun v h => v = some .null) := by
  refine MetFree.of_bodySF pn_16 hisR ?_
  intro p e s m args below meth c s₁ Bd hml0 hP hK
  obtain ⟨rfl, hZ, hh, hC, hSf⟩ := hP
  have hx := Bd.exec
  have hby := Bd.bytes
  have hml : c.maxLocals = 2 := hml0
  have hnm := (name_of_methodNamed Bd.named Bd.method).1
  have w0 := Wk.start (a0 := a0) (EL := consts_1) (n0 := n0) (nw := false) Bd hZ hh hE hC (efpn m x) ({ frames := 2, cells := 2, slots := 8, locals := 28 } : Room) rfl
  have K0 : Keep h0 h0 [] := Keep.refl _ _
  have lt_Sx := Sx.lt
  have hS : ∀ d ∈ Bundle.stringAtoms, d.before a0 Z = true := fun d hd => hw d ((by decide +kernel : ∀ d ∈ Bundle.stringAtoms, d ∈ tables_1) d hd)
  have hq_eqW : ∀ d ∈ StrChars.Road.wordsEq, d.before a0 Z = true := fun d hd => hw d ((by decide +kernel : ∀ d ∈ StrChars.Road.wordsEq, d ∈ tables_1) d hd)
  have w1 := w0.pure (mkF m 1 #[.val (.ref x), .unset] [(.ref x)]) (fun X eT hZ hown k => by
      show Steps _ _ _ (State.setTop _ (mkF m 0 #[.val (.ref x), .unset] [])) _
      refine S.aloadN X.here hx (hb hby dpn_0) rfl rfl ?_
      exact k)
  obtain ⟨b2, vm2, h2, t2, k2, E2, A2, F2c, F2v, V2, l2, m2, C2, N2, w2⟩ := w1.ldcCH hx (text := "/") (hw _ (List.mem_of_getElem? (i := 12) rfl)) hS (List.mem_of_getElem? (i := 0) rfl) (vs := [(.int (47 : Int32))]) (z := (1 : Int32)) ⟨by decide, by decide⟩ (by decide) (by decide) rfl (hb hby dpn_1) 4 (by decide) (by decide) (by decide) (by decide) (fun xq => (mkF m 3 #[.val (.ref x), .unset] (.ref xq :: [(.ref x)]))) (fun _ => rfl)
  have z2 := E2.1
  have K3 : Keep h0 h2 [] := K0.ext E2
  have S2 : Str Z h2 b2 [(47 : Int32)] h2.size := Str.of A2 F2v F2c V2 rfl rfl (List.forall_mem_cons.mpr ⟨by decide, (fun _ q => nomatch q)⟩) (by decide) l2 m2
  have F4 := Sx.ext E2
  have F5 := X0.ext E2
  obtain ⟨v6, h6, Q6, K6, z6, w6⟩ := w2.callV hx (C := "java/lang/String") (y := (⟨"java/lang/String", "equals", "(Ljava/lang/Object;)Z"⟩ : MethodName)) (z := (⟨"java/lang/String", "equals", "(Ljava/lang/Object;)Z"⟩ : MethodName)) (W := 0) (hw _ (List.mem_of_getElem? (i := 13) rfl)) (hw _ (List.mem_of_getElem? (i := 14) rfl)) (hw _ (List.mem_of_getElem? (i := 16) rfl)) (hw _ (List.mem_of_getElem? (i := 15) rfl)) (w2.nf (hw _ (List.mem_of_getElem? (i := 16) rfl))) (by decide) (payEq hG w2.hZ hq_eqW (hw _ (List.mem_of_getElem? (i := 2) rfl)) F4 S2 F5 (by decide) (by decide)) F4.exa rfl (by rw [hml]; rfl) [] (lenOf pd_12 rfl) rfl (by show 2 * 0 + _ ≤ _; exact Nat.le_of_eq rfl) (hb hby dpn_3) (by decide) (by decide) (fun _ q => nomatch q) (fun rv => (mkF m 6 #[.val (.ref x), .unset] (rv.toList ++ []))) (fun _ => rfl)
  obtain ⟨rfl, rfl⟩ := Q6
  have w7 := w6.pure (mkF m 10 #[.val (.ref x), .unset] [.null]) (fun X eT hZ hown k => by
      show Steps _ _ _ (State.setTop _ (mkF m 6 #[.val (.ref x), .unset] [(.int (if [(47 : Int32)] = [(47 : Int32)] then (1 : Int32) else (0 : Int32)))])) _
      refine S.ifNo X.here hx (hb hby dpn_6) ((if0 _ _).trans (feq (by decide)).1) ?_
      refine S.aconstNull X.here hx (hb hby dpn_9) ?_
      exact k)
  exact w7.endW (v := some .null) (Q := (fun v h => v = some .null)) (wr := []) (h0 := h0) (fun h => by rw [Bd.returns] at h; cases h) Bd.notSynchronized (fun X hr => X.areturnOut hx rfl Bd.returns rfl (hb hby dpn_10) hr) (by decide) (by decide) rfl K3
theorem pd_13 : parseMethodDescriptor "(I)I" = some ⟨[.int], some .int⟩ := by decide +kernel
theorem pd_14 : parseMethodDescriptor "(II)Ljava/lang/String;" = some ⟨[.int, .int], some (.object "java/lang/String")⟩ := by decide +kernel
theorem dpr_0 : decode prog_19_method_5_code 0 = .ok (.aload_n 0, 1) := by decide +kernel
theorem dpr_1 : decode prog_19_method_5_code 1 = .ok (.ldc 9, 2) := by decide +kernel
theorem dpr_3 : decode prog_19_method_5_code 3 = .ok (.invokevirtual 11, 3) := by decide +kernel
theorem dpr_6 : decode prog_19_method_5_code 6 = .ok (.ifCond .eq 5, 3) := by decide +kernel
theorem dpr_11 : decode prog_19_method_5_code 11 = .ok (.aload_n 0, 1) := by decide +kernel
theorem dpr_12 : decode prog_19_method_5_code 12 = .ok (.bipush 47, 2) := by decide +kernel
theorem dpr_14 : decode prog_19_method_5_code 14 = .ok (.invokevirtual 55, 3) := by decide +kernel
theorem dpr_17 : decode prog_19_method_5_code 17 = .ok (.istore_n 1, 1) := by decide +kernel
theorem dpr_18 : decode prog_19_method_5_code 18 = .ok (.iload_n 1, 1) := by decide +kernel
theorem dpr_19 : decode prog_19_method_5_code 19 = .ok (.ifCond .ge 8, 3) := by decide +kernel
theorem dpr_22 : decode prog_19_method_5_code 22 = .ok (.ldc 9, 2) := by decide +kernel
theorem dpr_24 : decode prog_19_method_5_code 24 = .ok (.goto 9, 3) := by decide +kernel
theorem dpr_27 : decode prog_19_method_5_code 27 = .ok (.aload_n 0, 1) := by decide +kernel
theorem dpr_28 : decode prog_19_method_5_code 28 = .ok (.iconst 0, 1) := by decide +kernel
theorem dpr_29 : decode prog_19_method_5_code 29 = .ok (.iload_n 1, 1) := by decide +kernel
theorem dpr_30 : decode prog_19_method_5_code 30 = .ok (.invokevirtual 59, 3) := by decide +kernel
theorem dpr_33 : decode prog_19_method_5_code 33 = .ok (.areturn, 1) := by decide +kernel
theorem efpr (m : MethodId) (x0 : Nat) : entryFrame m #[(.ref x0)] 2 = mkF m 0 #[.val (.ref x0), .unset] [] := by first | (simp [entryFrame, mkF, argsToLocals, Value.category, maxLocals]; done) | rfl
set_option maxRecDepth 65536 in
set_option maxHeartbeats 40000000 in
theorem rmpr (l : Launch) (Z : State) (a0 : Array Value) (hw : ∀ d ∈ tables_1, d.before a0 Z = true) (hE : EW Z a0 consts_1) (x : Nat) (cs : List Int32) (b : Nat) (h0 : Heap) (n0 : Nat) (Z0 : n0 ≤ h0.size) (hG : SetsOk Z) (X0 : Old Z n0 h0) (Sx : Str Z h0 x cs b) (hne : ¬ cs = [(47 : Int32)]) (hp0 : ¬ (own_lix cs (47 : Int32) cs.length) = 0) (h8 : cs.length ≤ 8) :
    WMet l Z consts_1 (⟨"com/example/bylaw/bylaw/TreePath", "parent", "(Ljava/lang/String;)Ljava/lang/String;"⟩ : MethodName) prog_19_method_5_code 2 (some (.object "java/lang/String")) [] ({ frames := 5, cells := 4, slots := 20, locals := 89 } : Room) [(.ref x)] h0 n0 [] [] (fun v h => ∃ y, v = some (.ref y) ∧ Str Z h y (own_parent cs) h.size) := by
  refine MetFree.of_bodySF pn_16 hisR ?_
  intro p e s m args below meth c s₁ Bd hml0 hP hK
  obtain ⟨rfl, hZ, hh, hC, hSf⟩ := hP
  have hx := Bd.exec
  have hby := Bd.bytes
  have hml : c.maxLocals = 2 := hml0
  have hnm := (name_of_methodNamed Bd.named Bd.method).1
  have w0 := Wk.start (a0 := a0) (EL := consts_1) (n0 := n0) (nw := false) Bd hZ hh hE hC (efpr m x) ({ frames := 5, cells := 4, slots := 20, locals := 89 } : Room) rfl
  have K0 : Keep h0 h0 [] := Keep.refl _ _
  have lt_Sx := Sx.lt
  have hS : ∀ d ∈ Bundle.stringAtoms, d.before a0 Z = true := fun d hd => hw d ((by decide +kernel : ∀ d ∈ Bundle.stringAtoms, d ∈ tables_1) d hd)
  have hq_eqW : ∀ d ∈ StrChars.Road.wordsEq, d.before a0 Z = true := fun d hd => hw d ((by decide +kernel : ∀ d ∈ StrChars.Road.wordsEq, d ∈ tables_1) d hd)
  have w1 := w0.pure (mkF m 1 #[.val (.ref x), .unset] [(.ref x)]) (fun X eT hZ hown k => by
      show Steps _ _ _ (State.setTop _ (mkF m 0 #[.val (.ref x), .unset] [])) _
      refine S.aloadN X.here hx (hb hby dpr_0) rfl rfl ?_
      exact k)
  obtain ⟨b2, vm2, h2, t2, k2, E2, A2, F2c, F2v, V2, l2, m2, C2, N2, w2⟩ := w1.ldcCH hx (text := "/") (hw _ (List.mem_of_getElem? (i := 12) rfl)) hS (List.mem_of_getElem? (i := 0) rfl) (vs := [(.int (47 : Int32))]) (z := (1 : Int32)) ⟨by decide, by decide⟩ (by decide) (by decide) rfl (hb hby dpr_1) 4 (by decide) (by decide) (by decide) (by decide) (fun xq => (mkF m 3 #[.val (.ref x), .unset] (.ref xq :: [(.ref x)]))) (fun _ => rfl)
  have z2 := E2.1
  have K3 : Keep h0 h2 [] := K0.ext E2
  have S2 : Str Z h2 b2 [(47 : Int32)] h2.size := Str.of A2 F2v F2c V2 rfl rfl (List.forall_mem_cons.mpr ⟨by decide, (fun _ q => nomatch q)⟩) (by decide) l2 m2
  have F4 := Sx.ext E2
  have F5 := X0.ext E2
  obtain ⟨v6, h6, Q6, K6, z6, w6⟩ := w2.callV hx (C := "java/lang/String") (y := (⟨"java/lang/String", "equals", "(Ljava/lang/Object;)Z"⟩ : MethodName)) (z := (⟨"java/lang/String", "equals", "(Ljava/lang/Object;)Z"⟩ : MethodName)) (W := 0) (hw _ (List.mem_of_getElem? (i := 13) rfl)) (hw _ (List.mem_of_getElem? (i := 14) rfl)) (hw _ (List.mem_of_getElem? (i := 16) rfl)) (hw _ (List.mem_of_getElem? (i := 15) rfl)) (w2.nf (hw _ (List.mem_of_getElem? (i := 16) rfl))) (by decide) (payEq hG w2.hZ hq_eqW (hw _ (List.mem_of_getElem? (i := 2) rfl)) F4 S2 F5 (by decide) (by decide)) F4.exa rfl (by rw [hml]; rfl) [] (lenOf pd_12 rfl) rfl (by show 2 * 0 + _ ≤ _; exact Nat.le_of_eq rfl) (hb hby dpr_3) (by decide) (by decide) (fun _ q => nomatch q) (fun rv => (mkF m 6 #[.val (.ref x), .unset] (rv.toList ++ []))) (fun _ => rfl)
  obtain ⟨rfl, rfl⟩ := Q6
  have w7 := w6.pure (mkF m 14 #[.val (.ref x), .unset] [(.int (47 : Int32)), (.ref x)]) (fun X eT hZ hown k => by
      show Steps _ _ _ (State.setTop _ (mkF m 6 #[.val (.ref x), .unset] [(.int (if cs = [(47 : Int32)] then (1 : Int32) else (0 : Int32)))])) _
      refine S.ifYes X.here hx 11 (hb hby dpr_6) ((if0 _ _).trans (teq (if_neg hne)).1) (by decide) (by decide) ?_
      refine S.aloadN X.here hx (hb hby dpr_11) rfl rfl ?_
      refine S.bipush X.here hx (47 : Int32) (hb hby dpr_12) rfl ?_
      exact k)
  obtain ⟨v8, h8, Q8, K8, z8, w8⟩ := w7.callV hx (C := "java/lang/String") (y := (⟨"java/lang/String", "lastIndexOf", "(I)I"⟩ : MethodName)) (z := (⟨"java/lang/String", "lastIndexOf", "(I)I"⟩ : MethodName)) (W := 0) (hw _ (List.mem_of_getElem? (i := 56) rfl)) (hw _ (List.mem_of_getElem? (i := 57) rfl)) (hw _ (List.mem_of_getElem? (i := 59) rfl)) (hw _ (List.mem_of_getElem? (i := 58) rfl)) (w7.nf (hw _ (List.mem_of_getElem? (i := 59) rfl))) (by decide) ((rml3 l Z a0 hw x cs _ h2 n0 (by omega) hG F5 F4).pay w7.hZ (hw _ (List.mem_of_getElem? (i := 60) rfl)) (hw _ (List.mem_of_getElem? (i := 1) rfl)) (by decide) (by decide)) F4.exa rfl (by rw [hml]; rfl) [] (lenOf pd_13 rfl) rfl (by show 2 * 0 + _ ≤ _; exact Nat.le_of_eq rfl) (hb hby dpr_14) (by decide) (by decide) (fun _ q => nomatch q) (fun rv => (mkF m 17 #[.val (.ref x), .unset] (rv.toList ++ []))) (fun _ => rfl)
  obtain ⟨rfl, rfl⟩ := Q8
  have w9 := w8.pure (mkF m 19 #[.val (.ref x), .val (.int (own_lix cs (47 : Int32) cs.length))] [(.int (own_lix cs (47 : Int32) cs.length))]) (fun X eT hZ hown k => by
      show Steps _ _ _ (State.setTop _ (mkF m 17 #[.val (.ref x), .unset] [(.int (own_lix cs (47 : Int32) cs.length))])) _
      refine S.istoreN X.here hx (hb hby dpr_17) #[.val (.ref x), .val (.int (own_lix cs (47 : Int32) cs.length))] rfl ?_
      refine S.iloadN X.here hx (hb hby dpr_18) rfl ?_
      exact k)
  by_cases hc10 : (own_lix cs (47 : Int32) cs.length) < (0 : Int32)
  · have w11 := w9.pure (mkF m 22 #[.val (.ref x), .val (.int (own_lix cs (47 : Int32) cs.length))] []) (fun X eT hZ hown k => by
        show Steps _ _ _ (State.setTop _ (mkF m 19 #[.val (.ref x), .val (.int (own_lix cs (47 : Int32) cs.length))] [(.int (own_lix cs (47 : Int32) cs.length))])) _
        refine S.ifNo X.here hx (hb hby dpr_19) ((if0 _ _).trans (tlt hc10).2.1) ?_
        exact k)
    obtain ⟨b12, vm12, h12, t12, k12, E12, A12, F12c, F12v, V12, l12, m12, C12, N12, w12⟩ := w11.ldcCH hx (text := "/") (hw _ (List.mem_of_getElem? (i := 12) rfl)) hS (List.mem_of_getElem? (i := 0) rfl) (vs := [(.int (47 : Int32))]) (z := (1 : Int32)) ⟨by decide, by decide⟩ (by decide) (by decide) rfl (hb hby dpr_22) 4 (by decide) (by decide) (by decide) (by decide) (fun xq => (mkF m 24 #[.val (.ref x), .val (.int (own_lix cs (47 : Int32) cs.length))] (.ref xq :: []))) (fun _ => rfl)
    have z12 := E12.1
    have K13 : Keep h0 h12 [] := K3.ext E12
    have S12 : Str Z h12 b12 [(47 : Int32)] h12.size := Str.of A12 F12v F12c V12 rfl rfl (List.forall_mem_cons.mpr ⟨by decide, (fun _ q => nomatch q)⟩) (by decide) l12 m12
    have w14 := w12.pure (mkF m 33 #[.val (.ref x), .val (.int (own_lix cs (47 : Int32) cs.length))] [(.ref b12)]) (fun X eT hZ hown k => by
        show Steps _ _ _ (State.setTop _ (mkF m 24 #[.val (.ref x), .val (.int (own_lix cs (47 : Int32) cs.length))] [(.ref b12)])) _
        refine S.goto X.here hx 33 (hb hby dpr_24) (by decide) (by decide) ?_
        exact k)
    exact w14.endW (v := some (.ref b12)) (Q := (fun v h => ∃ y, v = some (.ref y) ∧ Str Z h y (own_parent cs) h.size)) (wr := []) (h0 := h0) (fun h => by rw [Bd.returns] at h; cases h) Bd.notSynchronized (fun X hr => X.areturnOut hx rfl Bd.returns rfl (hb hby dpr_33) hr) (by decide) (by decide) ⟨b12, rfl, by rw [show own_parent cs = [(47 : Int32)] from if_pos hc10]; exact S12.more (by omega)⟩ K13
  · have w15 := w9.pure (mkF m 30 #[.val (.ref x), .val (.int (own_lix cs (47 : Int32) cs.length))] [(.int (own_lix cs (47 : Int32) cs.length)), (.int (0 : Int32)), (.ref x)]) (fun X eT hZ hown k => by
        show Steps _ _ _ (State.setTop _ (mkF m 19 #[.val (.ref x), .val (.int (own_lix cs (47 : Int32) cs.length))] [(.int (own_lix cs (47 : Int32) cs.length))])) _
        refine S.ifYes X.here hx 27 (hb hby dpr_19) ((if0 _ _).trans (flt hc10).2.1) (by decide) (by decide) ?_
        refine S.aloadN X.here hx (hb hby dpr_27) rfl rfl ?_
        refine S.iconst X.here hx (0 : Int32) (hb hby dpr_28) rfl ?_
        refine S.iloadN X.here hx (hb hby dpr_29) rfl ?_
        exact k)
    obtain ⟨N, hN, eN⟩ := own_lix_pos hc10
    have w16 := w15
    rw [eN] at w16
    obtain ⟨v17, h17, Q17, K17, z17, w17⟩ := w16.callV hx (C := "java/lang/String") (y := (⟨"java/lang/String", "substring", "(II)Ljava/lang/String;"⟩ : MethodName)) (z := (⟨"java/lang/String", "substring", "(II)Ljava/lang/String;"⟩ : MethodName)) (W := 0) (hw _ (List.mem_of_getElem? (i := 92) rfl)) (hw _ (List.mem_of_getElem? (i := 93) rfl)) (hw _ (List.mem_of_getElem? (i := 95) rfl)) (hw _ (List.mem_of_getElem? (i := 94) rfl)) (w16.nf (hw _ (List.mem_of_getElem? (i := 95) rfl))) (by decide) ((rms6 l Z a0 hw x cs _ 0 N h2 n0 (by omega) hG F5 F4 (by omega) (by omega) (fun q => absurd q.2 (by omega)) (fun q => hp0 (by rw [eN, q]; rfl))).pay w16.hZ (hw _ (List.mem_of_getElem? (i := 96) rfl)) (hw _ (List.mem_of_getElem? (i := 1) rfl)) (by decide) (by decide)) F4.exa rfl (by rw [hml]; rfl) [] (lenOf pd_14 rfl) rfl (by show 2 * 0 + _ ≤ _; exact Nat.le_of_eq rfl) (hb hby dpr_30) (by decide) (by decide) (fun _ q => nomatch q) (fun rv => (mkF m 33 #[.val (.ref x), .val (.int (Int32.ofNat (0 + N)))] (rv.toList ++ []))) (fun _ => rfl)
    obtain ⟨y17, rfl, gy17, S17⟩ := Q17
    have K18 : Keep h0 h17 [] := K3.trans K17 (fun _ q => nomatch q)
    have lt_y17 := S17.lt
    exact w17.endW (v := some (.ref y17)) (Q := (fun v h => ∃ y, v = some (.ref y) ∧ Str Z h y (own_parent cs) h.size)) (wr := []) (h0 := h0) (fun h => by rw [Bd.returns] at h; cases h) Bd.notSynchronized (fun X hr => X.areturnOut hx rfl Bd.returns rfl (hb hby dpr_33) hr) (by decide) (by decide) ⟨y17, rfl, by rw [show own_parent cs = own_sl cs 0 N from (if_neg hc10).trans (by rw [eN, Nat.zero_add, i_clamp (by omega)])]; exact S17.more (by omega)⟩ K18
theorem pd_15 : parseMethodDescriptor "(Ljava/lang/String;)Ljava/lang/String;" = some ⟨[(.object "java/lang/String")], some (.object "java/lang/String")⟩ := by decide +kernel
set_option maxRecDepth 65536 in
set_option maxHeartbeats 40000000 in
theorem ptT (l : Launch) (Z : State) (a0 : Array Value) (hw : ∀ d ∈ tables_1, d.before a0 Z = true) (hE : EW Z a0 consts_1) {p : Program} {e : Env} {s s₁ st : State} {m : MethodId} {args : Array Value} {below : List Frame} {meth : Method} {c : Code} {Sp : Spec} (Bd : BodyLoose p l x Sp code maxLocals ret e s m args below meth c s₁) (hml : c.maxLocals = 14) (p0 i3 i4 i5 i6 i8 i9 i10 : Int32) (p1 : Int64) (a xs xe : Nat) (cs ce : List Int32) (h0 : Heap) (n0 : Nat) (Z0 : n0 ≤ h0.size) {h1 : Heap} {vm1 : Vm}
    (w0 : Wk p l e room_1 s m args below meth c Z a0 consts_1 n0 x.cls false st vm1 h1 (mkF m 263 #[.val (.int p0), .val (.long p1), .second, .val (.int i3), .val (.int i4), .val (.int i5), .val (.int i6), .val (.ref a), .val (.int i8), .val (.int i9), .val (.int i10), .val (.ref xs), .val (.ref xe), .unset] []) 16 160) (K0 : Keep h0 h1 []) (Z1 : h0.size ≤ h1.size) (hG : SetsOk Z) (X1 : Old Z n0 h1) (Ss : Str Z h1 xs cs h1.size) (Se : Str Z h1 xe ce h1.size) (hpar : own_parent cs = ce) (hne : ¬ cs = [(47 : Int32)]) (hp0 : ¬ (own_lix cs (47 : Int32) cs.length) = 0) (h8 : cs.length ≤ 8) :
    EndsW p e below st s Z consts_1 n0 h0 [] (fun v h => v = some (.int 1)) room_1.cells room_1.slots := by
  have hx := Bd.exec
  have hby := Bd.bytes
  have hnm := (name_of_methodNamed Bd.named Bd.method).1
  have lt_Ss := Ss.lt
  have lt_Se := Se.lt
  have hq_eqW : ∀ d ∈ StrChars.Road.wordsEq, d.before a0 Z = true := fun d hd => hw d ((by decide +kernel : ∀ d ∈ StrChars.Road.wordsEq, d ∈ tables_1) d hd)
  have w1 := w0.pure (mkF m 265 #[.val (.int p0), .val (.long p1), .second, .val (.int i3), .val (.int i4), .val (.int i5), .val (.int i6), .val (.ref a), .val (.int i8), .val (.int i9), .val (.int i10), .val (.ref xs), .val (.ref xe), .unset] [(.ref xs)]) (fun X eT hZ hown k => by
      show Steps _ _ _ (State.setTop _ (mkF m 263 #[.val (.int p0), .val (.long p1), .second, .val (.int i3), .val (.int i4), .val (.int i5), .val (.int i6), .val (.ref a), .val (.int i8), .val (.int i9), .val (.int i10), .val (.ref xs), .val (.ref xe), .unset] [])) _
      refine S.aload X.here hx (hb hby at_263) rfl rfl ?_
      exact k)
  obtain ⟨v2, vm2, h2, Q2, K2, z2, C2, w2⟩ := w1.callSW hx (y := (⟨"com/example/bylaw/bylaw/TreePath", "parent", "(Ljava/lang/String;)Ljava/lang/String;"⟩ : MethodName)) (W := 0) (hw _ (List.mem_of_getElem? (i := 8) rfl)) (hw _ (List.mem_of_getElem? (i := 9) rfl)) (hw _ (List.mem_of_getElem? (i := 10) rfl)) (hw _ (List.mem_of_getElem? (i := 11) rfl)) (by decide) ((rmpr l Z a0 hw hE xs cs _ h1 n0 (by omega) hG X1 Ss hne hp0 h8).pay w1 (hw _ (List.mem_of_getElem? (i := 11) rfl)) (hw _ (List.mem_of_getElem? (i := 10) rfl)) (by decide) (by decide) all0) rfl (by rw [hml]; rfl) [] (lenOf pd_15 rfl) rfl (by show 2 * 0 + _ ≤ _; exact Nat.le_of_eq rfl) (hb hby at_265) (by decide) (by decide)  (fun rv => (mkF m 268 #[.val (.int p0), .val (.long p1), .second, .val (.int i3), .val (.int i4), .val (.int i5), .val (.int i6), .val (.ref a), .val (.int i8), .val (.int i9), .val (.int i10), .val (.ref xs), .val (.ref xe), .unset] (rv.toList ++ []))) (fun _ => rfl)
  obtain ⟨y2, rfl, S2⟩ := Q2
  have K3 : Keep h0 h2 [] := K0.trans K2 (fun _ q => nomatch q)
  have lt_y2 := S2.lt
  have w4 := w2.pure (mkF m 279 #[.val (.int p0), .val (.long p1), .second, .val (.int i3), .val (.int i4), .val (.int i5), .val (.int i6), .val (.ref a), .val (.int i8), .val (.int i9), .val (.int i10), .val (.ref xs), .val (.ref xe), .val (.ref y2)] [(.ref xe), (.ref y2)]) (fun X eT hZ hown k => by
      show Steps _ _ _ (State.setTop _ (mkF m 268 #[.val (.int p0), .val (.long p1), .second, .val (.int i3), .val (.int i4), .val (.int i5), .val (.int i6), .val (.ref a), .val (.int i8), .val (.int i9), .val (.int i10), .val (.ref xs), .val (.ref xe), .unset] [(.ref y2)])) _
      refine S.astore X.here hx (hb hby at_268) rfl #[.val (.int p0), .val (.long p1), .second, .val (.int i3), .val (.int i4), .val (.int i5), .val (.int i6), .val (.ref a), .val (.int i8), .val (.int i9), .val (.int i10), .val (.ref xs), .val (.ref xe), .val (.ref y2)] rfl ?_
      refine S.aload X.here hx (hb hby at_270) rfl rfl ?_
      refine S.ifnullNo X.here hx (hb hby at_272) ?_
      refine S.aload X.here hx (hb hby at_275) rfl rfl ?_
      refine S.aload X.here hx (hb hby at_277) rfl rfl ?_
      exact k)
  have F5 := Se.keep K2 all0
  have F6 := X1.keep K2 all0
  obtain ⟨v7, h7, Q7, K7, z7, w7⟩ := w4.callV hx (C := "java/lang/String") (y := (⟨"java/lang/String", "equals", "(Ljava/lang/Object;)Z"⟩ : MethodName)) (z := (⟨"java/lang/String", "equals", "(Ljava/lang/Object;)Z"⟩ : MethodName)) (W := 0) (hw _ (List.mem_of_getElem? (i := 91) rfl)) (hw _ (List.mem_of_getElem? (i := 14) rfl)) (hw _ (List.mem_of_getElem? (i := 16) rfl)) (hw _ (List.mem_of_getElem? (i := 15) rfl)) (w4.nf (hw _ (List.mem_of_getElem? (i := 16) rfl))) (by decide) (payEq hG w4.hZ hq_eqW (hw _ (List.mem_of_getElem? (i := 2) rfl)) S2 F5 F6 (by decide) (by decide)) S2.exa rfl (by rw [hml]; rfl) [] (lenOf pd_12 rfl) rfl (by show 2 * 0 + _ ≤ _; exact Nat.le_of_eq rfl) (hb hby at_279) (by decide) (by decide) (fun _ q => nomatch q) (fun rv => (mkF m 282 #[.val (.int p0), .val (.long p1), .second, .val (.int i3), .val (.int i4), .val (.int i5), .val (.int i6), .val (.ref a), .val (.int i8), .val (.int i9), .val (.int i10), .val (.ref xs), .val (.ref xe), .val (.ref y2)] (rv.toList ++ []))) (fun _ => rfl)
  obtain ⟨rfl, rfl⟩ := Q7
  have w8 := w7.pure (mkF m 290 #[.val (.int p0), .val (.long p1), .second, .val (.int i3), .val (.int i4), .val (.int i5), .val (.int i6), .val (.ref a), .val (.int i8), .val (.int i9), .val (.int i10), .val (.ref xs), .val (.ref xe), .val (.ref y2)] [(.int (1 : Int32))]) (fun X eT hZ hown k => by
      show Steps _ _ _ (State.setTop _ (mkF m 282 #[.val (.int p0), .val (.long p1), .second, .val (.int i3), .val (.int i4), .val (.int i5), .val (.int i6), .val (.ref a), .val (.int i8), .val (.int i9), .val (.int i10), .val (.ref xs), .val (.ref xe), .val (.ref y2)] [(.int (if (own_parent cs) = ce then (1 : Int32) else (0 : Int32)))])) _
      refine S.ifNo X.here hx (hb hby at_282) ((if0 _ _).trans (feq (by rw [if_pos hpar]; decide)).1) ?_
      refine S.iconst X.here hx (1 : Int32) (hb hby at_285) rfl ?_
      refine S.goto X.here hx 290 (hb hby at_286) (by decide) (by decide) ?_
      exact k)
  exact w8.endW (v := some (.int (1 : Int32))) (Q := (fun v h => v = some (.int 1))) (wr := []) (h0 := h0) (fun h => by rw [Bd.returns] at h; cases h) Bd.notSynchronized (fun X hr => retN X hx (t := .boolean) Bd.returns (by simp) (hb hby at_290) hr) (by decide) (by decide) rfl K3
theorem own_pp_cc (c0 c1 : Int32) (hc0 : ¬ c0 = 47) (hc1 : ¬ c1 = 47) : own_parent [c0, c1] = [(47 : Int32)] ∧ ¬ [c0, c1] = [(47 : Int32)] ∧ ¬ own_lix [c0, c1] (47 : Int32) [c0, c1].length = 0 ∧ [c0, c1].length ≤ 8 := by
  refine ⟨?_, ?_, ?_, ?_⟩ <;> simp [own_parent, own_lix, own_sl, hc0, hc1] <;> decide
theorem own_pp_ccscc (c0 c1 c3 c4 : Int32) (hc0 : ¬ c0 = 47) (hc1 : ¬ c1 = 47) (hc3 : ¬ c3 = 47) (hc4 : ¬ c4 = 47) : own_parent [c0, c1, (47 : Int32), c3, c4] = [c0, c1] ∧ ¬ [c0, c1, (47 : Int32), c3, c4] = [(47 : Int32)] ∧ ¬ own_lix [c0, c1, (47 : Int32), c3, c4] (47 : Int32) [c0, c1, (47 : Int32), c3, c4].length = 0 ∧ [c0, c1, (47 : Int32), c3, c4].length ≤ 8 := by
  refine ⟨?_, ?_, ?_, ?_⟩ <;> simp [own_parent, own_lix, own_sl, hc0, hc1, hc3, hc4] <;> decide
theorem own_pp_ccsccscc (c0 c1 c3 c4 c6 c7 : Int32) (hc0 : ¬ c0 = 47) (hc1 : ¬ c1 = 47) (hc3 : ¬ c3 = 47) (hc4 : ¬ c4 = 47) (hc6 : ¬ c6 = 47) (hc7 : ¬ c7 = 47) : own_parent [c0, c1, (47 : Int32), c3, c4, (47 : Int32), c6, c7] = [c0, c1, (47 : Int32), c3, c4] ∧ ¬ [c0, c1, (47 : Int32), c3, c4, (47 : Int32), c6, c7] = [(47 : Int32)] ∧ ¬ own_lix [c0, c1, (47 : Int32), c3, c4, (47 : Int32), c6, c7] (47 : Int32) [c0, c1, (47 : Int32), c3, c4, (47 : Int32), c6, c7].length = 0 ∧ [c0, c1, (47 : Int32), c3, c4, (47 : Int32), c6, c7].length ≤ 8 := by
  refine ⟨?_, ?_, ?_, ?_⟩ <;> simp [own_parent, own_lix, own_sl, hc0, hc1, hc3, hc4, hc6, hc7] <;> decide
theorem own_pp_ccsccsc (c0 c1 c3 c4 c6 : Int32) (hc0 : ¬ c0 = 47) (hc1 : ¬ c1 = 47) (hc3 : ¬ c3 = 47) (hc4 : ¬ c4 = 47) (hc6 : ¬ c6 = 47) : own_parent [c0, c1, (47 : Int32), c3, c4, (47 : Int32), c6] = [c0, c1, (47 : Int32), c3, c4] ∧ ¬ [c0, c1, (47 : Int32), c3, c4, (47 : Int32), c6] = [(47 : Int32)] ∧ ¬ own_lix [c0, c1, (47 : Int32), c3, c4, (47 : Int32), c6] (47 : Int32) [c0, c1, (47 : Int32), c3, c4, (47 : Int32), c6].length = 0 ∧ [c0, c1, (47 : Int32), c3, c4, (47 : Int32), c6].length ≤ 8 := by
  refine ⟨?_, ?_, ?_, ?_⟩ <;> simp [own_parent, own_lix, own_sl, hc0, hc1, hc3, hc4, hc6] <;> decide
theorem own_pp_ccsc (c0 c1 c3 : Int32) (hc0 : ¬ c0 = 47) (hc1 : ¬ c1 = 47) (hc3 : ¬ c3 = 47) : own_parent [c0, c1, (47 : Int32), c3] = [c0, c1] ∧ ¬ [c0, c1, (47 : Int32), c3] = [(47 : Int32)] ∧ ¬ own_lix [c0, c1, (47 : Int32), c3] (47 : Int32) [c0, c1, (47 : Int32), c3].length = 0 ∧ [c0, c1, (47 : Int32), c3].length ≤ 8 := by
  refine ⟨?_, ?_, ?_, ?_⟩ <;> simp [own_parent, own_lix, own_sl, hc0, hc1, hc3] <;> decide
theorem own_pp_ccscscc (c0 c1 c3 c5 c6 : Int32) (hc0 : ¬ c0 = 47) (hc1 : ¬ c1 = 47) (hc3 : ¬ c3 = 47) (hc5 : ¬ c5 = 47) (hc6 : ¬ c6 = 47) : own_parent [c0, c1, (47 : Int32), c3, (47 : Int32), c5, c6] = [c0, c1, (47 : Int32), c3] ∧ ¬ [c0, c1, (47 : Int32), c3, (47 : Int32), c5, c6] = [(47 : Int32)] ∧ ¬ own_lix [c0, c1, (47 : Int32), c3, (47 : Int32), c5, c6] (47 : Int32) [c0, c1, (47 : Int32), c3, (47 : Int32), c5, c6].length = 0 ∧ [c0, c1, (47 : Int32), c3, (47 : Int32), c5, c6].length ≤ 8 := by
  refine ⟨?_, ?_, ?_, ?_⟩ <;> simp [own_parent, own_lix, own_sl, hc0, hc1, hc3, hc5, hc6] <;> decide
theorem own_pp_ccscsc (c0 c1 c3 c5 : Int32) (hc0 : ¬ c0 = 47) (hc1 : ¬ c1 = 47) (hc3 : ¬ c3 = 47) (hc5 : ¬ c5 = 47) : own_parent [c0, c1, (47 : Int32), c3, (47 : Int32), c5] = [c0, c1, (47 : Int32), c3] ∧ ¬ [c0, c1, (47 : Int32), c3, (47 : Int32), c5] = [(47 : Int32)] ∧ ¬ own_lix [c0, c1, (47 : Int32), c3, (47 : Int32), c5] (47 : Int32) [c0, c1, (47 : Int32), c3, (47 : Int32), c5].length = 0 ∧ [c0, c1, (47 : Int32), c3, (47 : Int32), c5].length ≤ 8 := by
  refine ⟨?_, ?_, ?_, ?_⟩ <;> simp [own_parent, own_lix, own_sl, hc0, hc1, hc3, hc5] <;> decide
theorem own_pp_c (c0 : Int32) (hc0 : ¬ c0 = 47) : own_parent [c0] = [(47 : Int32)] ∧ ¬ [c0] = [(47 : Int32)] ∧ ¬ own_lix [c0] (47 : Int32) [c0].length = 0 ∧ [c0].length ≤ 8 := by
  refine ⟨?_, ?_, ?_, ?_⟩ <;> simp [own_parent, own_lix, own_sl, hc0] <;> decide
theorem own_pp_cscc (c0 c2 c3 : Int32) (hc0 : ¬ c0 = 47) (hc2 : ¬ c2 = 47) (hc3 : ¬ c3 = 47) : own_parent [c0, (47 : Int32), c2, c3] = [c0] ∧ ¬ [c0, (47 : Int32), c2, c3] = [(47 : Int32)] ∧ ¬ own_lix [c0, (47 : Int32), c2, c3] (47 : Int32) [c0, (47 : Int32), c2, c3].length = 0 ∧ [c0, (47 : Int32), c2, c3].length ≤ 8 := by
  refine ⟨?_, ?_, ?_, ?_⟩ <;> simp [own_parent, own_lix, own_sl, hc0, hc2, hc3] <;> decide
theorem own_pp_csccscc (c0 c2 c3 c5 c6 : Int32) (hc0 : ¬ c0 = 47) (hc2 : ¬ c2 = 47) (hc3 : ¬ c3 = 47) (hc5 : ¬ c5 = 47) (hc6 : ¬ c6 = 47) : own_parent [c0, (47 : Int32), c2, c3, (47 : Int32), c5, c6] = [c0, (47 : Int32), c2, c3] ∧ ¬ [c0, (47 : Int32), c2, c3, (47 : Int32), c5, c6] = [(47 : Int32)] ∧ ¬ own_lix [c0, (47 : Int32), c2, c3, (47 : Int32), c5, c6] (47 : Int32) [c0, (47 : Int32), c2, c3, (47 : Int32), c5, c6].length = 0 ∧ [c0, (47 : Int32), c2, c3, (47 : Int32), c5, c6].length ≤ 8 := by
  refine ⟨?_, ?_, ?_, ?_⟩ <;> simp [own_parent, own_lix, own_sl, hc0, hc2, hc3, hc5, hc6] <;> decide
theorem own_pp_csccsc (c0 c2 c3 c5 : Int32) (hc0 : ¬ c0 = 47) (hc2 : ¬ c2 = 47) (hc3 : ¬ c3 = 47) (hc5 : ¬ c5 = 47) : own_parent [c0, (47 : Int32), c2, c3, (47 : Int32), c5] = [c0, (47 : Int32), c2, c3] ∧ ¬ [c0, (47 : Int32), c2, c3, (47 : Int32), c5] = [(47 : Int32)] ∧ ¬ own_lix [c0, (47 : Int32), c2, c3, (47 : Int32), c5] (47 : Int32) [c0, (47 : Int32), c2, c3, (47 : Int32), c5].length = 0 ∧ [c0, (47 : Int32), c2, c3, (47 : Int32), c5].length ≤ 8 := by
  refine ⟨?_, ?_, ?_, ?_⟩ <;> simp [own_parent, own_lix, own_sl, hc0, hc2, hc3, hc5] <;> decide
theorem own_pp_csc (c0 c2 : Int32) (hc0 : ¬ c0 = 47) (hc2 : ¬ c2 = 47) : own_parent [c0, (47 : Int32), c2] = [c0] ∧ ¬ [c0, (47 : Int32), c2] = [(47 : Int32)] ∧ ¬ own_lix [c0, (47 : Int32), c2] (47 : Int32) [c0, (47 : Int32), c2].length = 0 ∧ [c0, (47 : Int32), c2].length ≤ 8 := by
  refine ⟨?_, ?_, ?_, ?_⟩ <;> simp [own_parent, own_lix, own_sl, hc0, hc2] <;> decide
theorem own_pp_cscscc (c0 c2 c4 c5 : Int32) (hc0 : ¬ c0 = 47) (hc2 : ¬ c2 = 47) (hc4 : ¬ c4 = 47) (hc5 : ¬ c5 = 47) : own_parent [c0, (47 : Int32), c2, (47 : Int32), c4, c5] = [c0, (47 : Int32), c2] ∧ ¬ [c0, (47 : Int32), c2, (47 : Int32), c4, c5] = [(47 : Int32)] ∧ ¬ own_lix [c0, (47 : Int32), c2, (47 : Int32), c4, c5] (47 : Int32) [c0, (47 : Int32), c2, (47 : Int32), c4, c5].length = 0 ∧ [c0, (47 : Int32), c2, (47 : Int32), c4, c5].length ≤ 8 := by
  refine ⟨?_, ?_, ?_, ?_⟩ <;> simp [own_parent, own_lix, own_sl, hc0, hc2, hc4, hc5] <;> decide
theorem own_pp_cscsc (c0 c2 c4 : Int32) (hc0 : ¬ c0 = 47) (hc2 : ¬ c2 = 47) (hc4 : ¬ c4 = 47) : own_parent [c0, (47 : Int32), c2, (47 : Int32), c4] = [c0, (47 : Int32), c2] ∧ ¬ [c0, (47 : Int32), c2, (47 : Int32), c4] = [(47 : Int32)] ∧ ¬ own_lix [c0, (47 : Int32), c2, (47 : Int32), c4] (47 : Int32) [c0, (47 : Int32), c2, (47 : Int32), c4].length = 0 ∧ [c0, (47 : Int32), c2, (47 : Int32), c4].length ≤ 8 := by
  refine ⟨?_, ?_, ?_, ?_⟩ <;> simp [own_parent, own_lix, own_sl, hc0, hc2, hc4] <;> decide
theorem pd_16 : parseMethodDescriptor "(JI)C" = some ⟨[.long, .int], some .char⟩ := by decide +kernel
theorem pd_17 : parseMethodDescriptor "([CI)Ljava/lang/String;" = some ⟨[(.array .char), .int], some (.object "java/lang/String")⟩ := by decide +kernel
theorem ef0 (m : MethodId) (x0 : Int32) (x1 : Int64) : entryFrame m #[(.int x0), (.long x1)] maxLocals = mkF m 0 #[.val (.int x0), .val (.long x1), .second, .unset, .unset, .unset, .unset, .unset, .unset, .unset, .unset, .unset, .unset, .unset] [] := by first | (simp [entryFrame, mkF, argsToLocals, Value.category, maxLocals]; done) | rfl
theorem pn_17 : plainFor x = true := by first | decide +kernel | (apply plainFor_of_name; simp [plainName, overriddenIn]; done)
set_option maxRecDepth 65536 in
set_option maxHeartbeats 40000000 in
theorem rm0 (l : Launch) (Z : State) (a0 : Array Value) (hw : ∀ d ∈ tables_1, d.before a0 Z = true) (hE : EW Z a0 consts_1) (ws : List Jvm.Cond) (p0 : Int32) (p1 : Int64) (h0 : Heap) (n0 : Nat) (Z0 : n0 ≤ h0.size) (hG : SetsOk Z) (X0 : Old Z n0 h0) :
    WMet l Z consts_1 x code maxLocals ret ws room_1 [(.int p0), (.long p1)] h0 n0 [] [] (fun v h => v = some (.int 1)) := by
  refine MetFree.of_bodySF pn_17 hisR ?_
  intro p e s m args below meth c s₁ Bd hml0 hP hK
  obtain ⟨rfl, hZ, hh, hC, hSf⟩ := hP
  have hx := Bd.exec
  have hby := Bd.bytes
  have hml : c.maxLocals = 14 := hml0
  have hnm := (name_of_methodNamed Bd.named Bd.method).1
  have w0 := Wk.start (a0 := a0) (EL := consts_1) (n0 := n0) (nw := false) Bd hZ hh hE hC (ef0 m p0 p1) room_1 rfl
  have K0 : Keep h0 h0 [] := Keep.refl _ _
  have hS : ∀ d ∈ Bundle.stringAtoms, d.before a0 Z = true := fun d hd => hw d ((by decide +kernel : ∀ d ∈ Bundle.stringAtoms, d ∈ tables_1) d hd)
  have w1 := w0.pure (mkF m 5 #[.val (.int p0), .val (.long p1), .second, .val (.int (p0 &&& (3 : Int32))), .unset, .unset, .unset, .unset, .unset, .unset, .unset, .unset, .unset, .unset] [(.int (p0 &&& (3 : Int32)))]) (fun X eT hZ hown k => by
      show Steps _ _ _ (State.setTop _ (mkF m 0 #[.val (.int p0), .val (.long p1), .second, .unset, .unset, .unset, .unset, .unset, .unset, .unset, .unset, .unset, .unset, .unset] [])) _
      refine S.iloadN X.here hx (hb hby at_0) rfl ?_
      refine S.iconst X.here hx (3 : Int32) (hb hby at_1) rfl ?_
      refine S.iand X.here hx (hb hby at_2) ?_
      refine S.istoreN X.here hx (hb hby at_3) #[.val (.int p0), .val (.long p1), .second, .val (.int (p0 &&& (3 : Int32))), .unset, .unset, .unset, .unset, .unset, .unset, .unset, .unset, .unset, .unset] rfl ?_
      refine S.iloadN X.here hx (hb hby at_4) rfl ?_
      exact k)
  by_cases hc2 : (p0 &&& (3 : Int32)) = (0 : Int32)
  · have w3 := w1.pure (mkF m 8 #[.val (.int p0), .val (.long p1), .second, .val (.int (p0 &&& (3 : Int32))), .unset, .unset, .unset, .unset, .unset, .unset, .unset, .unset, .unset, .unset] []) (fun X eT hZ hown k => by
        show Steps _ _ _ (State.setTop _ (mkF m 5 #[.val (.int p0), .val (.long p1), .second, .val (.int (p0 &&& (3 : Int32))), .unset, .unset, .unset, .unset, .unset, .unset, .unset, .unset, .unset, .unset] [(.int (p0 &&& (3 : Int32)))])) _
        refine S.ifNo X.here hx (hb hby at_5) ((if0 _ _).trans (teq hc2).2) ?_
        exact k)
    obtain ⟨b4, vm4, h4, t4, k4, E4, A4, F4c, F4v, V4, l4, m4, C4, N4, w4⟩ := w3.ldcCH hx (text := "/") (hw _ (List.mem_of_getElem? (i := 0) rfl)) hS (List.mem_of_getElem? (i := 1) rfl) (vs := [(.int (47 : Int32))]) (z := (1 : Int32)) ⟨by decide, by decide⟩ (by decide) (by decide) rfl (hb hby at_8) 4 (by decide) (by decide) (by decide) (by decide) (fun xq => (mkF m 10 #[.val (.int p0), .val (.long p1), .second, .val (.int (p0 &&& (3 : Int32))), .unset, .unset, .unset, .unset, .unset, .unset, .unset, .unset, .unset, .unset] (.ref xq :: []))) (fun _ => rfl)
    have z4 := E4.1
    have K5 : Keep h0 h4 [] := K0.ext E4
    have S4 : Str Z h4 b4 [(47 : Int32)] h4.size := Str.of A4 F4v F4c V4 rfl rfl (List.forall_mem_cons.mpr ⟨by decide, (fun _ q => nomatch q)⟩) (by decide) l4 m4
    have F6 := X0.ext E4
    obtain ⟨v7, vm7, h7, Q7, K7, z7, C7, w7⟩ := w4.callSW hx (y := (⟨"com/example/bylaw/bylaw/TreePath", "parent", "(Ljava/lang/String;)Ljava/lang/String;"⟩ : MethodName)) (W := 0) (hw _ (List.mem_of_getElem? (i := 8) rfl)) (hw _ (List.mem_of_getElem? (i := 9) rfl)) (hw _ (List.mem_of_getElem? (i := 10) rfl)) (hw _ (List.mem_of_getElem? (i := 11) rfl)) (by decide) ((rmpn l Z a0 hw hE b4 _ h4 n0 (by omega) hG F6 S4).pay w4 (hw _ (List.mem_of_getElem? (i := 11) rfl)) (hw _ (List.mem_of_getElem? (i := 10) rfl)) (by decide) (by decide) all0) rfl (by rw [hml]; rfl) [] (lenOf pd_15 rfl) rfl (by show 2 * 0 + _ ≤ _; exact Nat.le_of_eq rfl) (hb hby at_10) (by decide) (by decide)  (fun rv => (mkF m 13 #[.val (.int p0), .val (.long p1), .second, .val (.int (p0 &&& (3 : Int32))), .unset, .unset, .unset, .unset, .unset, .unset, .unset, .unset, .unset, .unset] (rv.toList ++ []))) (fun _ => rfl)
    obtain rfl := Q7
    have K8 : Keep h0 h7 [] := K5.trans K7 (fun _ q => nomatch q)
    have w9 := w7.pure (mkF m 21 #[.val (.int p0), .val (.long p1), .second, .val (.int (p0 &&& (3 : Int32))), .unset, .unset, .unset, .unset, .unset, .unset, .unset, .unset, .unset, .unset] [(.int (1 : Int32))]) (fun X eT hZ hown k => by
        show Steps _ _ _ (State.setTop _ (mkF m 13 #[.val (.int p0), .val (.long p1), .second, .val (.int (p0 &&& (3 : Int32))), .unset, .unset, .unset, .unset, .unset, .unset, .unset, .unset, .unset, .unset] [.null])) _
        refine S.ifnonnullNo X.here hx (hb hby at_13) ?_
        refine S.iconst X.here hx (1 : Int32) (hb hby at_16) rfl ?_
        refine S.goto X.here hx 21 (hb hby at_17) (by decide) (by decide) ?_
        exact k)
    exact w9.endW (v := some (.int (1 : Int32))) (Q := (fun v h => v = some (.int 1))) (wr := []) (h0 := h0) (fun h => by rw [Bd.returns] at h; cases h) Bd.notSynchronized (fun X hr => retN X hx (t := .boolean) Bd.returns (by simp) (hb hby at_21) hr) (by decide) (by decide) rfl K8
  · have w10 := w1.pure (mkF m 51 #[.val (.int p0), .val (.long p1), .second, .val (.int (p0 &&& (3 : Int32))), .val (.int ((((p0.toUInt32 >>> ((2 : Int32) &&& 31).toUInt32).toInt32) &&& (1 : Int32)) + (1 : Int32))), .val (.int ((((p0.toUInt32 >>> ((3 : Int32) &&& 31).toUInt32).toInt32) &&& (1 : Int32)) + (1 : Int32))), .val (.int ((((p0.toUInt32 >>> ((4 : Int32) &&& 31).toUInt32).toInt32) &&& (1 : Int32)) + (1 : Int32))), .unset, .unset, .unset, .unset, .unset, .unset, .unset] [(.int (8 : Int32))]) (fun X eT hZ hown k => by
        show Steps _ _ _ (State.setTop _ (mkF m 5 #[.val (.int p0), .val (.long p1), .second, .val (.int (p0 &&& (3 : Int32))), .unset, .unset, .unset, .unset, .unset, .unset, .unset, .unset, .unset, .unset] [(.int (p0 &&& (3 : Int32)))])) _
        refine S.ifYes X.here hx 22 (hb hby at_5) ((if0 _ _).trans (feq hc2).2) (by decide) (by decide) ?_
        refine S.iloadN X.here hx (hb hby at_22) rfl ?_
        refine S.iconst X.here hx (2 : Int32) (hb hby at_23) rfl ?_
        refine S.iushr X.here hx (hb hby at_24) ?_
        refine S.iconst X.here hx (1 : Int32) (hb hby at_25) rfl ?_
        refine S.iand X.here hx (hb hby at_26) ?_
        refine S.iconst X.here hx (1 : Int32) (hb hby at_27) rfl ?_
        refine S.iadd X.here hx (hb hby at_28) ?_
        refine S.istore X.here hx (hb hby at_29) #[.val (.int p0), .val (.long p1), .second, .val (.int (p0 &&& (3 : Int32))), .val (.int ((((p0.toUInt32 >>> ((2 : Int32) &&& 31).toUInt32).toInt32) &&& (1 : Int32)) + (1 : Int32))), .unset, .unset, .unset, .unset, .unset, .unset, .unset, .unset, .unset] rfl ?_
        refine S.iloadN X.here hx (hb hby at_31) rfl ?_
        refine S.iconst X.here hx (3 : Int32) (hb hby at_32) rfl ?_
        refine S.iushr X.here hx (hb hby at_33) ?_
        refine S.iconst X.here hx (1 : Int32) (hb hby at_34) rfl ?_
        refine S.iand X.here hx (hb hby at_35) ?_
        refine S.iconst X.here hx (1 : Int32) (hb hby at_36) rfl ?_
        refine S.iadd X.here hx (hb hby at_37) ?_
        refine S.istore X.here hx (hb hby at_38) #[.val (.int p0), .val (.long p1), .second, .val (.int (p0 &&& (3 : Int32))), .val (.int ((((p0.toUInt32 >>> ((2 : Int32) &&& 31).toUInt32).toInt32) &&& (1 : Int32)) + (1 : Int32))), .val (.int ((((p0.toUInt32 >>> ((3 : Int32) &&& 31).toUInt32).toInt32) &&& (1 : Int32)) + (1 : Int32))), .unset, .unset, .unset, .unset, .unset, .unset, .unset, .unset] rfl ?_
        refine S.iloadN X.here hx (hb hby at_40) rfl ?_
        refine S.iconst X.here hx (4 : Int32) (hb hby at_41) rfl ?_
        refine S.iushr X.here hx (hb hby at_42) ?_
        refine S.iconst X.here hx (1 : Int32) (hb hby at_43) rfl ?_
        refine S.iand X.here hx (hb hby at_44) ?_
        refine S.iconst X.here hx (1 : Int32) (hb hby at_45) rfl ?_
        refine S.iadd X.here hx (hb hby at_46) ?_
        refine S.istore X.here hx (hb hby at_47) #[.val (.int p0), .val (.long p1), .second, .val (.int (p0 &&& (3 : Int32))), .val (.int ((((p0.toUInt32 >>> ((2 : Int32) &&& 31).toUInt32).toInt32) &&& (1 : Int32)) + (1 : Int32))), .val (.int ((((p0.toUInt32 >>> ((3 : Int32) &&& 31).toUInt32).toInt32) &&& (1 : Int32)) + (1 : Int32))), .val (.int ((((p0.toUInt32 >>> ((4 : Int32) &&& 31).toUInt32).toInt32) &&& (1 : Int32)) + (1 : Int32))), .unset, .unset, .unset, .unset, .unset, .unset, .unset] rfl ?_
        refine S.bipush X.here hx (8 : Int32) (hb hby at_49) rfl ?_
        exact k)
    obtain ⟨b11, h11, k11, g11, E11, l11, A11, y11, w11⟩ := w10.newP hx (hw _ (List.mem_of_getElem? (i := 18) rfl)) rfl (hb hby at_51) rfl (by decide) 8 (by decide) (by decide) (by decide) (by decide) (fun xq => (mkF m 53 #[.val (.int p0), .val (.long p1), .second, .val (.int (p0 &&& (3 : Int32))), .val (.int ((((p0.toUInt32 >>> ((2 : Int32) &&& 31).toUInt32).toInt32) &&& (1 : Int32)) + (1 : Int32))), .val (.int ((((p0.toUInt32 >>> ((3 : Int32) &&& 31).toUInt32).toInt32) &&& (1 : Int32)) + (1 : Int32))), .val (.int ((((p0.toUInt32 >>> ((4 : Int32) &&& 31).toUInt32).toInt32) &&& (1 : Int32)) + (1 : Int32))), .unset, .unset, .unset, .unset, .unset, .unset, .unset] (.ref xq :: []))) (fun _ => rfl)
    have z11 := E11.1
    have K12 : Keep h0 h11 [] := K0.ext E11
    have V11 : Arv Z h11 b11 k11 .char (8 : Int32) [(.int (0 : Int32)), (.int (0 : Int32)), (.int (0 : Int32)), (.int (0 : Int32)), (.int (0 : Int32)), (.int (0 : Int32)), (.int (0 : Int32)), (.int (0 : Int32))] (.int (0 : Int32)) := A11.pad (pad_rep [] (.int (0 : Int32)) 8)
    have w13 := w11.pure (mkF m 64 #[.val (.int p0), .val (.long p1), .second, .val (.int (p0 &&& (3 : Int32))), .val (.int ((((p0.toUInt32 >>> ((2 : Int32) &&& 31).toUInt32).toInt32) &&& (1 : Int32)) + (1 : Int32))), .val (.int ((((p0.toUInt32 >>> ((3 : Int32) &&& 31).toUInt32).toInt32) &&& (1 : Int32)) + (1 : Int32))), .val (.int ((((p0.toUInt32 >>> ((4 : Int32) &&& 31).toUInt32).toInt32) &&& (1 : Int32)) + (1 : Int32))), .val (.ref b11), .val (.int (0 : Int32)), .unset, .unset, .unset, .unset, .unset] [(.int (0 : Int32)), (.long p1), (.int (0 : Int32)), (.ref b11)]) (fun X eT hZ hown k => by
        show Steps _ _ _ (State.setTop _ (mkF m 53 #[.val (.int p0), .val (.long p1), .second, .val (.int (p0 &&& (3 : Int32))), .val (.int ((((p0.toUInt32 >>> ((2 : Int32) &&& 31).toUInt32).toInt32) &&& (1 : Int32)) + (1 : Int32))), .val (.int ((((p0.toUInt32 >>> ((3 : Int32) &&& 31).toUInt32).toInt32) &&& (1 : Int32)) + (1 : Int32))), .val (.int ((((p0.toUInt32 >>> ((4 : Int32) &&& 31).toUInt32).toInt32) &&& (1 : Int32)) + (1 : Int32))), .unset, .unset, .unset, .unset, .unset, .unset, .unset] [(.ref b11)])) _
        refine S.astore X.here hx (hb hby at_53) rfl #[.val (.int p0), .val (.long p1), .second, .val (.int (p0 &&& (3 : Int32))), .val (.int ((((p0.toUInt32 >>> ((2 : Int32) &&& 31).toUInt32).toInt32) &&& (1 : Int32)) + (1 : Int32))), .val (.int ((((p0.toUInt32 >>> ((3 : Int32) &&& 31).toUInt32).toInt32) &&& (1 : Int32)) + (1 : Int32))), .val (.int ((((p0.toUInt32 >>> ((4 : Int32) &&& 31).toUInt32).toInt32) &&& (1 : Int32)) + (1 : Int32))), .val (.ref b11), .unset, .unset, .unset, .unset, .unset, .unset] rfl ?_
        refine S.iconst X.here hx (0 : Int32) (hb hby at_55) rfl ?_
        refine S.istore X.here hx (hb hby at_56) #[.val (.int p0), .val (.long p1), .second, .val (.int (p0 &&& (3 : Int32))), .val (.int ((((p0.toUInt32 >>> ((2 : Int32) &&& 31).toUInt32).toInt32) &&& (1 : Int32)) + (1 : Int32))), .val (.int ((((p0.toUInt32 >>> ((3 : Int32) &&& 31).toUInt32).toInt32) &&& (1 : Int32)) + (1 : Int32))), .val (.int ((((p0.toUInt32 >>> ((4 : Int32) &&& 31).toUInt32).toInt32) &&& (1 : Int32)) + (1 : Int32))), .val (.ref b11), .val (.int (0 : Int32)), .unset, .unset, .unset, .unset, .unset] rfl ?_
        refine S.aload X.here hx (hb hby at_58) rfl rfl ?_
        refine S.iload X.here hx (hb hby at_60) rfl ?_
        refine S.lloadN X.here hx (hb hby at_62) rfl ?_
        refine S.iconst X.here hx (0 : Int32) (hb hby at_63) rfl ?_
        exact k)
    obtain ⟨v14, h14, Q14, K14, z14, w14⟩ := w13.callS hx (y := (⟨"com/example/bylaw/bylaw/TreePathParentPinLaw", "ch", "(JI)C"⟩ : MethodName)) (W := 2) (hw _ (List.mem_of_getElem? (i := 19) rfl)) (hw _ (List.mem_of_getElem? (i := 20) rfl)) (hw _ (List.mem_of_getElem? (i := 21) rfl)) (hw _ (List.mem_of_getElem? (i := 22) rfl)) (by decide) ((rmch l Z a0 hw p1 (0 : Int32) h11 n0 (by omega)).pay w13.hZ (hw _ (List.mem_of_getElem? (i := 22) rfl)) (hw _ (List.mem_of_getElem? (i := 21) rfl)) (by decide) (by decide)) rfl (by rw [hml]; rfl) [(.int (0 : Int32)), (.ref b11)] (lenOf pd_16 rfl) rfl (by show 2 * 0 + _ ≤ _; exact Nat.le_of_eq rfl) (hb hby at_64) (by decide) (by decide) (fun _ q => nomatch q) (fun rv => (mkF m 67 #[.val (.int p0), .val (.long p1), .second, .val (.int (p0 &&& (3 : Int32))), .val (.int ((((p0.toUInt32 >>> ((2 : Int32) &&& 31).toUInt32).toInt32) &&& (1 : Int32)) + (1 : Int32))), .val (.int ((((p0.toUInt32 >>> ((3 : Int32) &&& 31).toUInt32).toInt32) &&& (1 : Int32)) + (1 : Int32))), .val (.int ((((p0.toUInt32 >>> ((4 : Int32) &&& 31).toUInt32).toInt32) &&& (1 : Int32)) + (1 : Int32))), .val (.ref b11), .val (.int (0 : Int32)), .unset, .unset, .unset, .unset, .unset] (rv.toList ++ [(.int (0 : Int32)), (.ref b11)]))) (fun _ => rfl)
    obtain ⟨rfl, rfl⟩ := Q14
    obtain ⟨h15, W15, z15, V15, w15⟩ := w14.stC hx V11 0 rfl (Nat.le_of_ble_eq_true rfl) ⟨by decide, by decide⟩ rfl rfl (hb hby at_67) (by omega) (mkF m 68 #[.val (.int p0), .val (.long p1), .second, .val (.int (p0 &&& (3 : Int32))), .val (.int ((((p0.toUInt32 >>> ((2 : Int32) &&& 31).toUInt32).toInt32) &&& (1 : Int32)) + (1 : Int32))), .val (.int ((((p0.toUInt32 >>> ((3 : Int32) &&& 31).toUInt32).toInt32) &&& (1 : Int32)) + (1 : Int32))), .val (.int ((((p0.toUInt32 >>> ((4 : Int32) &&& 31).toUInt32).toInt32) &&& (1 : Int32)) + (1 : Int32))), .val (.ref b11), .val (.int (0 : Int32)), .unset, .unset, .unset, .unset, .unset] []) rfl
    rw [nar_rng (own_ch_ok _ _).1] at V15
    have U15 : Arv Z h15 b11 k11 .char (8 : Int32) [(.int (own_ch p1 (0 : Int32))), (.int (0 : Int32)), (.int (0 : Int32)), (.int (0 : Int32)), (.int (0 : Int32)), (.int (0 : Int32)), (.int (0 : Int32)), (.int (0 : Int32))] (.int (0 : Int32)) := V15
    have K16 : Keep h0 h15 [] := K12.wr W15 (Or.inr (by omega))
    have w17 := w15.pure (mkF m 77 #[.val (.int p0), .val (.long p1), .second, .val (.int (p0 &&& (3 : Int32))), .val (.int ((((p0.toUInt32 >>> ((2 : Int32) &&& 31).toUInt32).toInt32) &&& (1 : Int32)) + (1 : Int32))), .val (.int ((((p0.toUInt32 >>> ((3 : Int32) &&& 31).toUInt32).toInt32) &&& (1 : Int32)) + (1 : Int32))), .val (.int ((((p0.toUInt32 >>> ((4 : Int32) &&& 31).toUInt32).toInt32) &&& (1 : Int32)) + (1 : Int32))), .val (.ref b11), .val (.int (1 : Int32)), .unset, .unset, .unset, .unset, .unset] [(.int (2 : Int32)), (.int ((((p0.toUInt32 >>> ((2 : Int32) &&& 31).toUInt32).toInt32) &&& (1 : Int32)) + (1 : Int32)))]) (fun X eT hZ hown k => by
        show Steps _ _ _ (State.setTop _ (mkF m 68 #[.val (.int p0), .val (.long p1), .second, .val (.int (p0 &&& (3 : Int32))), .val (.int ((((p0.toUInt32 >>> ((2 : Int32) &&& 31).toUInt32).toInt32) &&& (1 : Int32)) + (1 : Int32))), .val (.int ((((p0.toUInt32 >>> ((3 : Int32) &&& 31).toUInt32).toInt32) &&& (1 : Int32)) + (1 : Int32))), .val (.int ((((p0.toUInt32 >>> ((4 : Int32) &&& 31).toUInt32).toInt32) &&& (1 : Int32)) + (1 : Int32))), .val (.ref b11), .val (.int (0 : Int32)), .unset, .unset, .unset, .unset, .unset] [])) _
        refine S.iload X.here hx (hb hby at_68) rfl ?_
        refine S.iconst X.here hx (1 : Int32) (hb hby at_70) rfl ?_
        refine S.iaddV X.here hx (1 : Int32) (hb hby at_71) rfl ?_
        refine S.istore X.here hx (hb hby at_72) #[.val (.int p0), .val (.long p1), .second, .val (.int (p0 &&& (3 : Int32))), .val (.int ((((p0.toUInt32 >>> ((2 : Int32) &&& 31).toUInt32).toInt32) &&& (1 : Int32)) + (1 : Int32))), .val (.int ((((p0.toUInt32 >>> ((3 : Int32) &&& 31).toUInt32).toInt32) &&& (1 : Int32)) + (1 : Int32))), .val (.int ((((p0.toUInt32 >>> ((4 : Int32) &&& 31).toUInt32).toInt32) &&& (1 : Int32)) + (1 : Int32))), .val (.ref b11), .val (.int (1 : Int32)), .unset, .unset, .unset, .unset, .unset] rfl ?_
        refine S.iload X.here hx (hb hby at_74) rfl ?_
        refine S.iconst X.here hx (2 : Int32) (hb hby at_76) rfl ?_
        exact k)
    by_cases hc18 : ((((p0.toUInt32 >>> ((2 : Int32) &&& 31).toUInt32).toInt32) &&& (1 : Int32)) + (1 : Int32)) = (2 : Int32)
    · have w19 := w17.pure (mkF m 86 #[.val (.int p0), .val (.long p1), .second, .val (.int (p0 &&& (3 : Int32))), .val (.int ((((p0.toUInt32 >>> ((2 : Int32) &&& 31).toUInt32).toInt32) &&& (1 : Int32)) + (1 : Int32))), .val (.int ((((p0.toUInt32 >>> ((3 : Int32) &&& 31).toUInt32).toInt32) &&& (1 : Int32)) + (1 : Int32))), .val (.int ((((p0.toUInt32 >>> ((4 : Int32) &&& 31).toUInt32).toInt32) &&& (1 : Int32)) + (1 : Int32))), .val (.ref b11), .val (.int (1 : Int32)), .unset, .unset, .unset, .unset, .unset] [(.int (1 : Int32)), (.long p1), (.int (1 : Int32)), (.ref b11)]) (fun X eT hZ hown k => by
          show Steps _ _ _ (State.setTop _ (mkF m 77 #[.val (.int p0), .val (.long p1), .second, .val (.int (p0 &&& (3 : Int32))), .val (.int ((((p0.toUInt32 >>> ((2 : Int32) &&& 31).toUInt32).toInt32) &&& (1 : Int32)) + (1 : Int32))), .val (.int ((((p0.toUInt32 >>> ((3 : Int32) &&& 31).toUInt32).toInt32) &&& (1 : Int32)) + (1 : Int32))), .val (.int ((((p0.toUInt32 >>> ((4 : Int32) &&& 31).toUInt32).toInt32) &&& (1 : Int32)) + (1 : Int32))), .val (.ref b11), .val (.int (1 : Int32)), .unset, .unset, .unset, .unset, .unset] [(.int (2 : Int32)), (.int ((((p0.toUInt32 >>> ((2 : Int32) &&& 31).toUInt32).toInt32) &&& (1 : Int32)) + (1 : Int32)))])) _
          refine S.icmpNo X.here hx (hb hby at_77) (teq hc18).2 ?_
          refine S.aload X.here hx (hb hby at_80) rfl rfl ?_
          refine S.iload X.here hx (hb hby at_82) rfl ?_
          refine S.lloadN X.here hx (hb hby at_84) rfl ?_
          refine S.iconst X.here hx (1 : Int32) (hb hby at_85) rfl ?_
          exact k)
      obtain ⟨v20, h20, Q20, K20, z20, w20⟩ := w19.callS hx (y := (⟨"com/example/bylaw/bylaw/TreePathParentPinLaw", "ch", "(JI)C"⟩ : MethodName)) (W := 2) (hw _ (List.mem_of_getElem? (i := 19) rfl)) (hw _ (List.mem_of_getElem? (i := 20) rfl)) (hw _ (List.mem_of_getElem? (i := 21) rfl)) (hw _ (List.mem_of_getElem? (i := 22) rfl)) (by decide) ((rmch l Z a0 hw p1 (1 : Int32) h15 n0 (by omega)).pay w19.hZ (hw _ (List.mem_of_getElem? (i := 22) rfl)) (hw _ (List.mem_of_getElem? (i := 21) rfl)) (by decide) (by decide)) rfl (by rw [hml]; rfl) [(.int (1 : Int32)), (.ref b11)] (lenOf pd_16 rfl) rfl (by show 2 * 0 + _ ≤ _; exact Nat.le_of_eq rfl) (hb hby at_86) (by decide) (by decide) (fun _ q => nomatch q) (fun rv => (mkF m 89 #[.val (.int p0), .val (.long p1), .second, .val (.int (p0 &&& (3 : Int32))), .val (.int ((((p0.toUInt32 >>> ((2 : Int32) &&& 31).toUInt32).toInt32) &&& (1 : Int32)) + (1 : Int32))), .val (.int ((((p0.toUInt32 >>> ((3 : Int32) &&& 31).toUInt32).toInt32) &&& (1 : Int32)) + (1 : Int32))), .val (.int ((((p0.toUInt32 >>> ((4 : Int32) &&& 31).toUInt32).toInt32) &&& (1 : Int32)) + (1 : Int32))), .val (.ref b11), .val (.int (1 : Int32)), .unset, .unset, .unset, .unset, .unset] (rv.toList ++ [(.int (1 : Int32)), (.ref b11)]))) (fun _ => rfl)
      obtain ⟨rfl, rfl⟩ := Q20
      obtain ⟨h21, W21, z21, V21, w21⟩ := w20.stC hx U15 1 rfl (Nat.le_of_ble_eq_true rfl) ⟨by decide, by decide⟩ rfl rfl (hb hby at_89) (by omega) (mkF m 90 #[.val (.int p0), .val (.long p1), .second, .val (.int (p0 &&& (3 : Int32))), .val (.int ((((p0.toUInt32 >>> ((2 : Int32) &&& 31).toUInt32).toInt32) &&& (1 : Int32)) + (1 : Int32))), .val (.int ((((p0.toUInt32 >>> ((3 : Int32) &&& 31).toUInt32).toInt32) &&& (1 : Int32)) + (1 : Int32))), .val (.int ((((p0.toUInt32 >>> ((4 : Int32) &&& 31).toUInt32).toInt32) &&& (1 : Int32)) + (1 : Int32))), .val (.ref b11), .val (.int (1 : Int32)), .unset, .unset, .unset, .unset, .unset] []) rfl
      rw [nar_rng (own_ch_ok _ _).1] at V21
      have U21 : Arv Z h21 b11 k11 .char (8 : Int32) [(.int (own_ch p1 (0 : Int32))), (.int (own_ch p1 (1 : Int32))), (.int (0 : Int32)), (.int (0 : Int32)), (.int (0 : Int32)), (.int (0 : Int32)), (.int (0 : Int32)), (.int (0 : Int32))] (.int (0 : Int32)) := V21
      have K22 : Keep h0 h21 [] := K16.wr W21 (Or.inr (by omega))
      have w23 := w21.pure (mkF m 102 #[.val (.int p0), .val (.long p1), .second, .val (.int (p0 &&& (3 : Int32))), .val (.int ((((p0.toUInt32 >>> ((2 : Int32) &&& 31).toUInt32).toInt32) &&& (1 : Int32)) + (1 : Int32))), .val (.int ((((p0.toUInt32 >>> ((3 : Int32) &&& 31).toUInt32).toInt32) &&& (1 : Int32)) + (1 : Int32))), .val (.int ((((p0.toUInt32 >>> ((4 : Int32) &&& 31).toUInt32).toInt32) &&& (1 : Int32)) + (1 : Int32))), .val (.ref b11), .val (.int (2 : Int32)), .val (.int (2 : Int32)), .unset, .unset, .unset, .unset] [(.int (2 : Int32)), (.int (p0 &&& (3 : Int32)))]) (fun X eT hZ hown k => by
          show Steps _ _ _ (State.setTop _ (mkF m 90 #[.val (.int p0), .val (.long p1), .second, .val (.int (p0 &&& (3 : Int32))), .val (.int ((((p0.toUInt32 >>> ((2 : Int32) &&& 31).toUInt32).toInt32) &&& (1 : Int32)) + (1 : Int32))), .val (.int ((((p0.toUInt32 >>> ((3 : Int32) &&& 31).toUInt32).toInt32) &&& (1 : Int32)) + (1 : Int32))), .val (.int ((((p0.toUInt32 >>> ((4 : Int32) &&& 31).toUInt32).toInt32) &&& (1 : Int32)) + (1 : Int32))), .val (.ref b11), .val (.int (1 : Int32)), .unset, .unset, .unset, .unset, .unset] [])) _
          refine S.iload X.here hx (hb hby at_90) rfl ?_
          refine S.iconst X.here hx (1 : Int32) (hb hby at_92) rfl ?_
          refine S.iaddV X.here hx (2 : Int32) (hb hby at_93) rfl ?_
          refine S.istore X.here hx (hb hby at_94) #[.val (.int p0), .val (.long p1), .second, .val (.int (p0 &&& (3 : Int32))), .val (.int ((((p0.toUInt32 >>> ((2 : Int32) &&& 31).toUInt32).toInt32) &&& (1 : Int32)) + (1 : Int32))), .val (.int ((((p0.toUInt32 >>> ((3 : Int32) &&& 31).toUInt32).toInt32) &&& (1 : Int32)) + (1 : Int32))), .val (.int ((((p0.toUInt32 >>> ((4 : Int32) &&& 31).toUInt32).toInt32) &&& (1 : Int32)) + (1 : Int32))), .val (.ref b11), .val (.int (2 : Int32)), .unset, .unset, .unset, .unset, .unset] rfl ?_
          refine S.iload X.here hx (hb hby at_96) rfl ?_
          refine S.istore X.here hx (hb hby at_98) #[.val (.int p0), .val (.long p1), .second, .val (.int (p0 &&& (3 : Int32))), .val (.int ((((p0.toUInt32 >>> ((2 : Int32) &&& 31).toUInt32).toInt32) &&& (1 : Int32)) + (1 : Int32))), .val (.int ((((p0.toUInt32 >>> ((3 : Int32) &&& 31).toUInt32).toInt32) &&& (1 : Int32)) + (1 : Int32))), .val (.int ((((p0.toUInt32 >>> ((4 : Int32) &&& 31).toUInt32).toInt32) &&& (1 : Int32)) + (1 : Int32))), .val (.ref b11), .val (.int (2 : Int32)), .val (.int (2 : Int32)), .unset, .unset, .unset, .unset] rfl ?_
          refine S.iloadN X.here hx (hb hby at_100) rfl ?_
          refine S.iconst X.here hx (2 : Int32) (hb hby at_101) rfl ?_
          exact k)
      by_cases hc24 : (p0 &&& (3 : Int32)) < (2 : Int32)
      · have w25 := w23.pure (mkF m 220 #[.val (.int p0), .val (.long p1), .second, .val (.int (p0 &&& (3 : Int32))), .val (.int ((((p0.toUInt32 >>> ((2 : Int32) &&& 31).toUInt32).toInt32) &&& (1 : Int32)) + (1 : Int32))), .val (.int ((((p0.toUInt32 >>> ((3 : Int32) &&& 31).toUInt32).toInt32) &&& (1 : Int32)) + (1 : Int32))), .val (.int ((((p0.toUInt32 >>> ((4 : Int32) &&& 31).toUInt32).toInt32) &&& (1 : Int32)) + (1 : Int32))), .val (.ref b11), .val (.int (2 : Int32)), .val (.int (2 : Int32)), .val (.int (2 : Int32)), .unset, .unset, .unset] [(.int (2 : Int32)), (.ref b11)]) (fun X eT hZ hown k => by
            show Steps _ _ _ (State.setTop _ (mkF m 102 #[.val (.int p0), .val (.long p1), .second, .val (.int (p0 &&& (3 : Int32))), .val (.int ((((p0.toUInt32 >>> ((2 : Int32) &&& 31).toUInt32).toInt32) &&& (1 : Int32)) + (1 : Int32))), .val (.int ((((p0.toUInt32 >>> ((3 : Int32) &&& 31).toUInt32).toInt32) &&& (1 : Int32)) + (1 : Int32))), .val (.int ((((p0.toUInt32 >>> ((4 : Int32) &&& 31).toUInt32).toInt32) &&& (1 : Int32)) + (1 : Int32))), .val (.ref b11), .val (.int (2 : Int32)), .val (.int (2 : Int32)), .unset, .unset, .unset, .unset] [(.int (2 : Int32)), (.int (p0 &&& (3 : Int32)))])) _
            refine S.icmpYes X.here hx 156 (hb hby at_102) (tlt hc24).1 (by decide) (by decide) ?_
            refine S.iload X.here hx (hb hby at_156) rfl ?_
            refine S.istore X.here hx (hb hby at_158) #[.val (.int p0), .val (.long p1), .second, .val (.int (p0 &&& (3 : Int32))), .val (.int ((((p0.toUInt32 >>> ((2 : Int32) &&& 31).toUInt32).toInt32) &&& (1 : Int32)) + (1 : Int32))), .val (.int ((((p0.toUInt32 >>> ((3 : Int32) &&& 31).toUInt32).toInt32) &&& (1 : Int32)) + (1 : Int32))), .val (.int ((((p0.toUInt32 >>> ((4 : Int32) &&& 31).toUInt32).toInt32) &&& (1 : Int32)) + (1 : Int32))), .val (.ref b11), .val (.int (2 : Int32)), .val (.int (2 : Int32)), .val (.int (2 : Int32)), .unset, .unset, .unset] rfl ?_
            refine S.iloadN X.here hx (hb hby at_160) rfl ?_
            refine S.iconst X.here hx (3 : Int32) (hb hby at_161) rfl ?_
            refine S.icmpYes X.here hx 216 (hb hby at_162) (tlt (own_sh.2.1 hc24)).1 (by decide) (by decide) ?_
            refine S.aload X.here hx (hb hby at_216) rfl rfl ?_
            refine S.iload X.here hx (hb hby at_218) rfl ?_
            exact k)
        have F26 := X0.ext E11
        have F27 := F26.wr W15 (by omega)
        have F28 := F27.wr W21 (by omega)
        obtain ⟨v29, h29, Q29, K29, z29, w29⟩ := w25.callS hx (y := (⟨"com/example/bylaw/bylaw/TreePathParentPinLaw", "str", "([CI)Ljava/lang/String;"⟩ : MethodName)) (W := 0) (hw _ (List.mem_of_getElem? (i := 24) rfl)) (hw _ (List.mem_of_getElem? (i := 25) rfl)) (hw _ (List.mem_of_getElem? (i := 21) rfl)) (hw _ (List.mem_of_getElem? (i := 26) rfl)) (by decide) ((rmt2 l Z a0 hw b11 k11 (own_ch p1 (0 : Int32)) (own_ch p1 (1 : Int32)) (0 : Int32) (0 : Int32) (0 : Int32) (0 : Int32) (0 : Int32) (0 : Int32) h21 n0 (by omega) hG F28 U21 (own_ch_ok _ _).1 (own_ch_ok _ _).1 (by decide) (by decide) (by decide) (by decide) (by decide) (by decide)).pay w25.hZ (hw _ (List.mem_of_getElem? (i := 26) rfl)) (hw _ (List.mem_of_getElem? (i := 21) rfl)) (by decide) (by decide)) rfl (by rw [hml]; rfl) [] (lenOf pd_17 rfl) rfl (by show 2 * 0 + _ ≤ _; exact Nat.le_of_eq rfl) (hb hby at_220) (by decide) (by decide) (fun _ q => nomatch q) (fun rv => (mkF m 223 #[.val (.int p0), .val (.long p1), .second, .val (.int (p0 &&& (3 : Int32))), .val (.int ((((p0.toUInt32 >>> ((2 : Int32) &&& 31).toUInt32).toInt32) &&& (1 : Int32)) + (1 : Int32))), .val (.int ((((p0.toUInt32 >>> ((3 : Int32) &&& 31).toUInt32).toInt32) &&& (1 : Int32)) + (1 : Int32))), .val (.int ((((p0.toUInt32 >>> ((4 : Int32) &&& 31).toUInt32).toInt32) &&& (1 : Int32)) + (1 : Int32))), .val (.ref b11), .val (.int (2 : Int32)), .val (.int (2 : Int32)), .val (.int (2 : Int32)), .unset, .unset, .unset] (rv.toList ++ []))) (fun _ => rfl)
        obtain ⟨x29, rfl, gx29, S29⟩ := Q29
        have K30 : Keep h0 h29 [] := K22.trans K29 (fun _ q => nomatch q)
        have lt_x29 := S29.lt
        have w31 := w29.pure (mkF m 230 #[.val (.int p0), .val (.long p1), .second, .val (.int (p0 &&& (3 : Int32))), .val (.int ((((p0.toUInt32 >>> ((2 : Int32) &&& 31).toUInt32).toInt32) &&& (1 : Int32)) + (1 : Int32))), .val (.int ((((p0.toUInt32 >>> ((3 : Int32) &&& 31).toUInt32).toInt32) &&& (1 : Int32)) + (1 : Int32))), .val (.int ((((p0.toUInt32 >>> ((4 : Int32) &&& 31).toUInt32).toInt32) &&& (1 : Int32)) + (1 : Int32))), .val (.ref b11), .val (.int (2 : Int32)), .val (.int (2 : Int32)), .val (.int (2 : Int32)), .val (.ref x29), .unset, .unset] []) (fun X eT hZ hown k => by
            show Steps _ _ _ (State.setTop _ (mkF m 223 #[.val (.int p0), .val (.long p1), .second, .val (.int (p0 &&& (3 : Int32))), .val (.int ((((p0.toUInt32 >>> ((2 : Int32) &&& 31).toUInt32).toInt32) &&& (1 : Int32)) + (1 : Int32))), .val (.int ((((p0.toUInt32 >>> ((3 : Int32) &&& 31).toUInt32).toInt32) &&& (1 : Int32)) + (1 : Int32))), .val (.int ((((p0.toUInt32 >>> ((4 : Int32) &&& 31).toUInt32).toInt32) &&& (1 : Int32)) + (1 : Int32))), .val (.ref b11), .val (.int (2 : Int32)), .val (.int (2 : Int32)), .val (.int (2 : Int32)), .unset, .unset, .unset] [(.ref x29)])) _
            refine S.astore X.here hx (hb hby at_223) rfl #[.val (.int p0), .val (.long p1), .second, .val (.int (p0 &&& (3 : Int32))), .val (.int ((((p0.toUInt32 >>> ((2 : Int32) &&& 31).toUInt32).toInt32) &&& (1 : Int32)) + (1 : Int32))), .val (.int ((((p0.toUInt32 >>> ((3 : Int32) &&& 31).toUInt32).toInt32) &&& (1 : Int32)) + (1 : Int32))), .val (.int ((((p0.toUInt32 >>> ((4 : Int32) &&& 31).toUInt32).toInt32) &&& (1 : Int32)) + (1 : Int32))), .val (.ref b11), .val (.int (2 : Int32)), .val (.int (2 : Int32)), .val (.int (2 : Int32)), .val (.ref x29), .unset, .unset] rfl ?_
            refine S.iloadN X.here hx (hb hby at_225) rfl ?_
            refine S.iconst X.here hx (1 : Int32) (hb hby at_226) rfl ?_
            refine S.icmpNo X.here hx (hb hby at_227) (teq (own_sh.1 hc2 hc24)).2 ?_
            exact k)
        obtain ⟨b32, vm32, h32, t32, k32, E32, A32, F32c, F32v, V32, l32, m32, C32, N32, w32⟩ := w31.ldcCH hx (text := "/") (hw _ (List.mem_of_getElem? (i := 0) rfl)) hS (List.mem_of_getElem? (i := 1) rfl) (vs := [(.int (47 : Int32))]) (z := (1 : Int32)) ⟨by decide, by decide⟩ (by decide) (by decide) rfl (hb hby at_230) 4 (by decide) (by decide) (by decide) (by decide) (fun xq => (mkF m 232 #[.val (.int p0), .val (.long p1), .second, .val (.int (p0 &&& (3 : Int32))), .val (.int ((((p0.toUInt32 >>> ((2 : Int32) &&& 31).toUInt32).toInt32) &&& (1 : Int32)) + (1 : Int32))), .val (.int ((((p0.toUInt32 >>> ((3 : Int32) &&& 31).toUInt32).toInt32) &&& (1 : Int32)) + (1 : Int32))), .val (.int ((((p0.toUInt32 >>> ((4 : Int32) &&& 31).toUInt32).toInt32) &&& (1 : Int32)) + (1 : Int32))), .val (.ref b11), .val (.int (2 : Int32)), .val (.int (2 : Int32)), .val (.int (2 : Int32)), .val (.ref x29), .unset, .unset] (.ref xq :: []))) (fun _ => rfl)
        have z32 := E32.1
        have K33 : Keep h0 h32 [] := K30.ext E32
        have S32 : Str Z h32 b32 [(47 : Int32)] h32.size := Str.of A32 F32v F32c V32 rfl rfl (List.forall_mem_cons.mpr ⟨by decide, (fun _ q => nomatch q)⟩) (by decide) l32 m32
        have w34 := w32.pure (mkF m 263 #[.val (.int p0), .val (.long p1), .second, .val (.int (p0 &&& (3 : Int32))), .val (.int ((((p0.toUInt32 >>> ((2 : Int32) &&& 31).toUInt32).toInt32) &&& (1 : Int32)) + (1 : Int32))), .val (.int ((((p0.toUInt32 >>> ((3 : Int32) &&& 31).toUInt32).toInt32) &&& (1 : Int32)) + (1 : Int32))), .val (.int ((((p0.toUInt32 >>> ((4 : Int32) &&& 31).toUInt32).toInt32) &&& (1 : Int32)) + (1 : Int32))), .val (.ref b11), .val (.int (2 : Int32)), .val (.int (2 : Int32)), .val (.int (2 : Int32)), .val (.ref x29), .val (.ref b32), .unset] []) (fun X eT hZ hown k => by
            show Steps _ _ _ (State.setTop _ (mkF m 232 #[.val (.int p0), .val (.long p1), .second, .val (.int (p0 &&& (3 : Int32))), .val (.int ((((p0.toUInt32 >>> ((2 : Int32) &&& 31).toUInt32).toInt32) &&& (1 : Int32)) + (1 : Int32))), .val (.int ((((p0.toUInt32 >>> ((3 : Int32) &&& 31).toUInt32).toInt32) &&& (1 : Int32)) + (1 : Int32))), .val (.int ((((p0.toUInt32 >>> ((4 : Int32) &&& 31).toUInt32).toInt32) &&& (1 : Int32)) + (1 : Int32))), .val (.ref b11), .val (.int (2 : Int32)), .val (.int (2 : Int32)), .val (.int (2 : Int32)), .val (.ref x29), .unset, .unset] [(.ref b32)])) _
            refine S.astore X.here hx (hb hby at_232) rfl #[.val (.int p0), .val (.long p1), .second, .val (.int (p0 &&& (3 : Int32))), .val (.int ((((p0.toUInt32 >>> ((2 : Int32) &&& 31).toUInt32).toInt32) &&& (1 : Int32)) + (1 : Int32))), .val (.int ((((p0.toUInt32 >>> ((3 : Int32) &&& 31).toUInt32).toInt32) &&& (1 : Int32)) + (1 : Int32))), .val (.int ((((p0.toUInt32 >>> ((4 : Int32) &&& 31).toUInt32).toInt32) &&& (1 : Int32)) + (1 : Int32))), .val (.ref b11), .val (.int (2 : Int32)), .val (.int (2 : Int32)), .val (.int (2 : Int32)), .val (.ref x29), .val (.ref b32), .unset] rfl ?_
            refine S.goto X.here hx 263 (hb hby at_234) (by decide) (by decide) ?_
            exact k)
        have pp35 := own_pp_cc (own_ch p1 (0 : Int32)) (own_ch p1 (1 : Int32)) (own_ch_ok _ _).2 (own_ch_ok _ _).2
        have F36 := F28.keep K29 all0
        have F37 := F36.ext E32
        have F38 := S29.ext E32
        exact ptT l Z a0 hw hE Bd hml p0 (p0 &&& (3 : Int32)) ((((p0.toUInt32 >>> ((2 : Int32) &&& 31).toUInt32).toInt32) &&& (1 : Int32)) + (1 : Int32)) ((((p0.toUInt32 >>> ((3 : Int32) &&& 31).toUInt32).toInt32) &&& (1 : Int32)) + (1 : Int32)) ((((p0.toUInt32 >>> ((4 : Int32) &&& 31).toUInt32).toInt32) &&& (1 : Int32)) + (1 : Int32)) (2 : Int32) (2 : Int32) (2 : Int32) p1 b11 x29 b32 [(own_ch p1 (0 : Int32)), (own_ch p1 (1 : Int32))] [(47 : Int32)] h0 n0 Z0 (w34.more (k := 16) (n := 160) (by decide) (by decide)) K33 (by omega) hG F37 (F38.more (by omega)) (S32.more (by omega)) pp35.1 pp35.2.1 pp35.2.2.1 pp35.2.2.2
      · have w39 := w23.pure (mkF m 111 #[.val (.int p0), .val (.long p1), .second, .val (.int (p0 &&& (3 : Int32))), .val (.int ((((p0.toUInt32 >>> ((2 : Int32) &&& 31).toUInt32).toInt32) &&& (1 : Int32)) + (1 : Int32))), .val (.int ((((p0.toUInt32 >>> ((3 : Int32) &&& 31).toUInt32).toInt32) &&& (1 : Int32)) + (1 : Int32))), .val (.int ((((p0.toUInt32 >>> ((4 : Int32) &&& 31).toUInt32).toInt32) &&& (1 : Int32)) + (1 : Int32))), .val (.ref b11), .val (.int (2 : Int32)), .val (.int (2 : Int32)), .unset, .unset, .unset, .unset] [(.int (47 : Int32)), (.int (2 : Int32)), (.ref b11)]) (fun X eT hZ hown k => by
            show Steps _ _ _ (State.setTop _ (mkF m 102 #[.val (.int p0), .val (.long p1), .second, .val (.int (p0 &&& (3 : Int32))), .val (.int ((((p0.toUInt32 >>> ((2 : Int32) &&& 31).toUInt32).toInt32) &&& (1 : Int32)) + (1 : Int32))), .val (.int ((((p0.toUInt32 >>> ((3 : Int32) &&& 31).toUInt32).toInt32) &&& (1 : Int32)) + (1 : Int32))), .val (.int ((((p0.toUInt32 >>> ((4 : Int32) &&& 31).toUInt32).toInt32) &&& (1 : Int32)) + (1 : Int32))), .val (.ref b11), .val (.int (2 : Int32)), .val (.int (2 : Int32)), .unset, .unset, .unset, .unset] [(.int (2 : Int32)), (.int (p0 &&& (3 : Int32)))])) _
            refine S.icmpNo X.here hx (hb hby at_102) (flt hc24).1 ?_
            refine S.aload X.here hx (hb hby at_105) rfl rfl ?_
            refine S.iload X.here hx (hb hby at_107) rfl ?_
            refine S.bipush X.here hx (47 : Int32) (hb hby at_109) rfl ?_
            exact k)
        obtain ⟨h40, W40, z40, V40, w40⟩ := w39.stC hx U21 2 rfl (Nat.le_of_ble_eq_true rfl) ⟨by decide, by decide⟩ rfl rfl (hb hby at_111) (by omega) (mkF m 112 #[.val (.int p0), .val (.long p1), .second, .val (.int (p0 &&& (3 : Int32))), .val (.int ((((p0.toUInt32 >>> ((2 : Int32) &&& 31).toUInt32).toInt32) &&& (1 : Int32)) + (1 : Int32))), .val (.int ((((p0.toUInt32 >>> ((3 : Int32) &&& 31).toUInt32).toInt32) &&& (1 : Int32)) + (1 : Int32))), .val (.int ((((p0.toUInt32 >>> ((4 : Int32) &&& 31).toUInt32).toInt32) &&& (1 : Int32)) + (1 : Int32))), .val (.ref b11), .val (.int (2 : Int32)), .val (.int (2 : Int32)), .unset, .unset, .unset, .unset] []) rfl
        rw [show nar .char (47 : Int32) = (47 : Int32) from rfl] at V40
        have U40 : Arv Z h40 b11 k11 .char (8 : Int32) [(.int (own_ch p1 (0 : Int32))), (.int (own_ch p1 (1 : Int32))), (.int (47 : Int32)), (.int (0 : Int32)), (.int (0 : Int32)), (.int (0 : Int32)), (.int (0 : Int32)), (.int (0 : Int32))] (.int (0 : Int32)) := V40
        have K41 : Keep h0 h40 [] := K22.wr W40 (Or.inr (by omega))
        have w42 := w40.pure (mkF m 124 #[.val (.int p0), .val (.long p1), .second, .val (.int (p0 &&& (3 : Int32))), .val (.int ((((p0.toUInt32 >>> ((2 : Int32) &&& 31).toUInt32).toInt32) &&& (1 : Int32)) + (1 : Int32))), .val (.int ((((p0.toUInt32 >>> ((3 : Int32) &&& 31).toUInt32).toInt32) &&& (1 : Int32)) + (1 : Int32))), .val (.int ((((p0.toUInt32 >>> ((4 : Int32) &&& 31).toUInt32).toInt32) &&& (1 : Int32)) + (1 : Int32))), .val (.ref b11), .val (.int (3 : Int32)), .val (.int (2 : Int32)), .unset, .unset, .unset, .unset] [(.int (2 : Int32)), (.long p1), (.int (3 : Int32)), (.ref b11)]) (fun X eT hZ hown k => by
            show Steps _ _ _ (State.setTop _ (mkF m 112 #[.val (.int p0), .val (.long p1), .second, .val (.int (p0 &&& (3 : Int32))), .val (.int ((((p0.toUInt32 >>> ((2 : Int32) &&& 31).toUInt32).toInt32) &&& (1 : Int32)) + (1 : Int32))), .val (.int ((((p0.toUInt32 >>> ((3 : Int32) &&& 31).toUInt32).toInt32) &&& (1 : Int32)) + (1 : Int32))), .val (.int ((((p0.toUInt32 >>> ((4 : Int32) &&& 31).toUInt32).toInt32) &&& (1 : Int32)) + (1 : Int32))), .val (.ref b11), .val (.int (2 : Int32)), .val (.int (2 : Int32)), .unset, .unset, .unset, .unset] [])) _
            refine S.iload X.here hx (hb hby at_112) rfl ?_
            refine S.iconst X.here hx (1 : Int32) (hb hby at_114) rfl ?_
            refine S.iaddV X.here hx (3 : Int32) (hb hby at_115) rfl ?_
            refine S.istore X.here hx (hb hby at_116) #[.val (.int p0), .val (.long p1), .second, .val (.int (p0 &&& (3 : Int32))), .val (.int ((((p0.toUInt32 >>> ((2 : Int32) &&& 31).toUInt32).toInt32) &&& (1 : Int32)) + (1 : Int32))), .val (.int ((((p0.toUInt32 >>> ((3 : Int32) &&& 31).toUInt32).toInt32) &&& (1 : Int32)) + (1 : Int32))), .val (.int ((((p0.toUInt32 >>> ((4 : Int32) &&& 31).toUInt32).toInt32) &&& (1 : Int32)) + (1 : Int32))), .val (.ref b11), .val (.int (3 : Int32)), .val (.int (2 : Int32)), .unset, .unset, .unset, .unset] rfl ?_
            refine S.aload X.here hx (hb hby at_118) rfl rfl ?_
            refine S.iload X.here hx (hb hby at_120) rfl ?_
            refine S.lloadN X.here hx (hb hby at_122) rfl ?_
            refine S.iconst X.here hx (2 : Int32) (hb hby at_123) rfl ?_
            exact k)
        obtain ⟨v43, h43, Q43, K43, z43, w43⟩ := w42.callS hx (y := (⟨"com/example/bylaw/bylaw/TreePathParentPinLaw", "ch", "(JI)C"⟩ : MethodName)) (W := 2) (hw _ (List.mem_of_getElem? (i := 19) rfl)) (hw _ (List.mem_of_getElem? (i := 20) rfl)) (hw _ (List.mem_of_getElem? (i := 21) rfl)) (hw _ (List.mem_of_getElem? (i := 22) rfl)) (by decide) ((rmch l Z a0 hw p1 (2 : Int32) h40 n0 (by omega)).pay w42.hZ (hw _ (List.mem_of_getElem? (i := 22) rfl)) (hw _ (List.mem_of_getElem? (i := 21) rfl)) (by decide) (by decide)) rfl (by rw [hml]; rfl) [(.int (3 : Int32)), (.ref b11)] (lenOf pd_16 rfl) rfl (by show 2 * 0 + _ ≤ _; exact Nat.le_of_eq rfl) (hb hby at_124) (by decide) (by decide) (fun _ q => nomatch q) (fun rv => (mkF m 127 #[.val (.int p0), .val (.long p1), .second, .val (.int (p0 &&& (3 : Int32))), .val (.int ((((p0.toUInt32 >>> ((2 : Int32) &&& 31).toUInt32).toInt32) &&& (1 : Int32)) + (1 : Int32))), .val (.int ((((p0.toUInt32 >>> ((3 : Int32) &&& 31).toUInt32).toInt32) &&& (1 : Int32)) + (1 : Int32))), .val (.int ((((p0.toUInt32 >>> ((4 : Int32) &&& 31).toUInt32).toInt32) &&& (1 : Int32)) + (1 : Int32))), .val (.ref b11), .val (.int (3 : Int32)), .val (.int (2 : Int32)), .unset, .unset, .unset, .unset] (rv.toList ++ [(.int (3 : Int32)), (.ref b11)]))) (fun _ => rfl)
        obtain ⟨rfl, rfl⟩ := Q43
        obtain ⟨h44, W44, z44, V44, w44⟩ := w43.stC hx U40 3 rfl (Nat.le_of_ble_eq_true rfl) ⟨by decide, by decide⟩ rfl rfl (hb hby at_127) (by omega) (mkF m 128 #[.val (.int p0), .val (.long p1), .second, .val (.int (p0 &&& (3 : Int32))), .val (.int ((((p0.toUInt32 >>> ((2 : Int32) &&& 31).toUInt32).toInt32) &&& (1 : Int32)) + (1 : Int32))), .val (.int ((((p0.toUInt32 >>> ((3 : Int32) &&& 31).toUInt32).toInt32) &&& (1 : Int32)) + (1 : Int32))), .val (.int ((((p0.toUInt32 >>> ((4 : Int32) &&& 31).toUInt32).toInt32) &&& (1 : Int32)) + (1 : Int32))), .val (.ref b11), .val (.int (3 : Int32)), .val (.int (2 : Int32)), .unset, .unset, .unset, .unset] []) rfl
        rw [nar_rng (own_ch_ok _ _).1] at V44
        have U44 : Arv Z h44 b11 k11 .char (8 : Int32) [(.int (own_ch p1 (0 : Int32))), (.int (own_ch p1 (1 : Int32))), (.int (47 : Int32)), (.int (own_ch p1 (2 : Int32))), (.int (0 : Int32)), (.int (0 : Int32)), (.int (0 : Int32)), (.int (0 : Int32))] (.int (0 : Int32)) := V44
        have K45 : Keep h0 h44 [] := K41.wr W44 (Or.inr (by omega))
        have w46 := w44.pure (mkF m 137 #[.val (.int p0), .val (.long p1), .second, .val (.int (p0 &&& (3 : Int32))), .val (.int ((((p0.toUInt32 >>> ((2 : Int32) &&& 31).toUInt32).toInt32) &&& (1 : Int32)) + (1 : Int32))), .val (.int ((((p0.toUInt32 >>> ((3 : Int32) &&& 31).toUInt32).toInt32) &&& (1 : Int32)) + (1 : Int32))), .val (.int ((((p0.toUInt32 >>> ((4 : Int32) &&& 31).toUInt32).toInt32) &&& (1 : Int32)) + (1 : Int32))), .val (.ref b11), .val (.int (4 : Int32)), .val (.int (2 : Int32)), .unset, .unset, .unset, .unset] [(.int (2 : Int32)), (.int ((((p0.toUInt32 >>> ((3 : Int32) &&& 31).toUInt32).toInt32) &&& (1 : Int32)) + (1 : Int32)))]) (fun X eT hZ hown k => by
            show Steps _ _ _ (State.setTop _ (mkF m 128 #[.val (.int p0), .val (.long p1), .second, .val (.int (p0 &&& (3 : Int32))), .val (.int ((((p0.toUInt32 >>> ((2 : Int32) &&& 31).toUInt32).toInt32) &&& (1 : Int32)) + (1 : Int32))), .val (.int ((((p0.toUInt32 >>> ((3 : Int32) &&& 31).toUInt32).toInt32) &&& (1 : Int32)) + (1 : Int32))), .val (.int ((((p0.toUInt32 >>> ((4 : Int32) &&& 31).toUInt32).toInt32) &&& (1 : Int32)) + (1 : Int32))), .val (.ref b11), .val (.int (3 : Int32)), .val (.int (2 : Int32)), .unset, .unset, .unset, .unset] [])) _
            refine S.iload X.here hx (hb hby at_128) rfl ?_
            refine S.iconst X.here hx (1 : Int32) (hb hby at_130) rfl ?_
            refine S.iaddV X.here hx (4 : Int32) (hb hby at_131) rfl ?_
            refine S.istore X.here hx (hb hby at_132) #[.val (.int p0), .val (.long p1), .second, .val (.int (p0 &&& (3 : Int32))), .val (.int ((((p0.toUInt32 >>> ((2 : Int32) &&& 31).toUInt32).toInt32) &&& (1 : Int32)) + (1 : Int32))), .val (.int ((((p0.toUInt32 >>> ((3 : Int32) &&& 31).toUInt32).toInt32) &&& (1 : Int32)) + (1 : Int32))), .val (.int ((((p0.toUInt32 >>> ((4 : Int32) &&& 31).toUInt32).toInt32) &&& (1 : Int32)) + (1 : Int32))), .val (.ref b11), .val (.int (4 : Int32)), .val (.int (2 : Int32)), .unset, .unset, .unset, .unset] rfl ?_
            refine S.iload X.here hx (hb hby at_134) rfl ?_
            refine S.iconst X.here hx (2 : Int32) (hb hby at_136) rfl ?_
            exact k)
        by_cases hc47 : ((((p0.toUInt32 >>> ((3 : Int32) &&& 31).toUInt32).toInt32) &&& (1 : Int32)) + (1 : Int32)) = (2 : Int32)
        · have w48 := w46.pure (mkF m 146 #[.val (.int p0), .val (.long p1), .second, .val (.int (p0 &&& (3 : Int32))), .val (.int ((((p0.toUInt32 >>> ((2 : Int32) &&& 31).toUInt32).toInt32) &&& (1 : Int32)) + (1 : Int32))), .val (.int ((((p0.toUInt32 >>> ((3 : Int32) &&& 31).toUInt32).toInt32) &&& (1 : Int32)) + (1 : Int32))), .val (.int ((((p0.toUInt32 >>> ((4 : Int32) &&& 31).toUInt32).toInt32) &&& (1 : Int32)) + (1 : Int32))), .val (.ref b11), .val (.int (4 : Int32)), .val (.int (2 : Int32)), .unset, .unset, .unset, .unset] [(.int (3 : Int32)), (.long p1), (.int (4 : Int32)), (.ref b11)]) (fun X eT hZ hown k => by
              show Steps _ _ _ (State.setTop _ (mkF m 137 #[.val (.int p0), .val (.long p1), .second, .val (.int (p0 &&& (3 : Int32))), .val (.int ((((p0.toUInt32 >>> ((2 : Int32) &&& 31).toUInt32).toInt32) &&& (1 : Int32)) + (1 : Int32))), .val (.int ((((p0.toUInt32 >>> ((3 : Int32) &&& 31).toUInt32).toInt32) &&& (1 : Int32)) + (1 : Int32))), .val (.int ((((p0.toUInt32 >>> ((4 : Int32) &&& 31).toUInt32).toInt32) &&& (1 : Int32)) + (1 : Int32))), .val (.ref b11), .val (.int (4 : Int32)), .val (.int (2 : Int32)), .unset, .unset, .unset, .unset] [(.int (2 : Int32)), (.int ((((p0.toUInt32 >>> ((3 : Int32) &&& 31).toUInt32).toInt32) &&& (1 : Int32)) + (1 : Int32)))])) _
              refine S.icmpNo X.here hx (hb hby at_137) (teq hc47).2 ?_
              refine S.aload X.here hx (hb hby at_140) rfl rfl ?_
              refine S.iload X.here hx (hb hby at_142) rfl ?_
              refine S.lloadN X.here hx (hb hby at_144) rfl ?_
              refine S.iconst X.here hx (3 : Int32) (hb hby at_145) rfl ?_
              exact k)
          obtain ⟨v49, h49, Q49, K49, z49, w49⟩ := w48.callS hx (y := (⟨"com/example/bylaw/bylaw/TreePathParentPinLaw", "ch", "(JI)C"⟩ : MethodName)) (W := 2) (hw _ (List.mem_of_getElem? (i := 19) rfl)) (hw _ (List.mem_of_getElem? (i := 20) rfl)) (hw _ (List.mem_of_getElem? (i := 21) rfl)) (hw _ (List.mem_of_getElem? (i := 22) rfl)) (by decide) ((rmch l Z a0 hw p1 (3 : Int32) h44 n0 (by omega)).pay w48.hZ (hw _ (List.mem_of_getElem? (i := 22) rfl)) (hw _ (List.mem_of_getElem? (i := 21) rfl)) (by decide) (by decide)) rfl (by rw [hml]; rfl) [(.int (4 : Int32)), (.ref b11)] (lenOf pd_16 rfl) rfl (by show 2 * 0 + _ ≤ _; exact Nat.le_of_eq rfl) (hb hby at_146) (by decide) (by decide) (fun _ q => nomatch q) (fun rv => (mkF m 149 #[.val (.int p0), .val (.long p1), .second, .val (.int (p0 &&& (3 : Int32))), .val (.int ((((p0.toUInt32 >>> ((2 : Int32) &&& 31).toUInt32).toInt32) &&& (1 : Int32)) + (1 : Int32))), .val (.int ((((p0.toUInt32 >>> ((3 : Int32) &&& 31).toUInt32).toInt32) &&& (1 : Int32)) + (1 : Int32))), .val (.int ((((p0.toUInt32 >>> ((4 : Int32) &&& 31).toUInt32).toInt32) &&& (1 : Int32)) + (1 : Int32))), .val (.ref b11), .val (.int (4 : Int32)), .val (.int (2 : Int32)), .unset, .unset, .unset, .unset] (rv.toList ++ [(.int (4 : Int32)), (.ref b11)]))) (fun _ => rfl)
          obtain ⟨rfl, rfl⟩ := Q49
          obtain ⟨h50, W50, z50, V50, w50⟩ := w49.stC hx U44 4 rfl (Nat.le_of_ble_eq_true rfl) ⟨by decide, by decide⟩ rfl rfl (hb hby at_149) (by omega) (mkF m 150 #[.val (.int p0), .val (.long p1), .second, .val (.int (p0 &&& (3 : Int32))), .val (.int ((((p0.toUInt32 >>> ((2 : Int32) &&& 31).toUInt32).toInt32) &&& (1 : Int32)) + (1 : Int32))), .val (.int ((((p0.toUInt32 >>> ((3 : Int32) &&& 31).toUInt32).toInt32) &&& (1 : Int32)) + (1 : Int32))), .val (.int ((((p0.toUInt32 >>> ((4 : Int32) &&& 31).toUInt32).toInt32) &&& (1 : Int32)) + (1 : Int32))), .val (.ref b11), .val (.int (4 : Int32)), .val (.int (2 : Int32)), .unset, .unset, .unset, .unset] []) rfl
          rw [nar_rng (own_ch_ok _ _).1] at V50
          have U50 : Arv Z h50 b11 k11 .char (8 : Int32) [(.int (own_ch p1 (0 : Int32))), (.int (own_ch p1 (1 : Int32))), (.int (47 : Int32)), (.int (own_ch p1 (2 : Int32))), (.int (own_ch p1 (3 : Int32))), (.int (0 : Int32)), (.int (0 : Int32)), (.int (0 : Int32))] (.int (0 : Int32)) := V50
          have K51 : Keep h0 h50 [] := K45.wr W50 (Or.inr (by omega))
          have w52 := w50.pure (mkF m 162 #[.val (.int p0), .val (.long p1), .second, .val (.int (p0 &&& (3 : Int32))), .val (.int ((((p0.toUInt32 >>> ((2 : Int32) &&& 31).toUInt32).toInt32) &&& (1 : Int32)) + (1 : Int32))), .val (.int ((((p0.toUInt32 >>> ((3 : Int32) &&& 31).toUInt32).toInt32) &&& (1 : Int32)) + (1 : Int32))), .val (.int ((((p0.toUInt32 >>> ((4 : Int32) &&& 31).toUInt32).toInt32) &&& (1 : Int32)) + (1 : Int32))), .val (.ref b11), .val (.int (5 : Int32)), .val (.int (2 : Int32)), .val (.int (5 : Int32)), .unset, .unset, .unset] [(.int (3 : Int32)), (.int (p0 &&& (3 : Int32)))]) (fun X eT hZ hown k => by
              show Steps _ _ _ (State.setTop _ (mkF m 150 #[.val (.int p0), .val (.long p1), .second, .val (.int (p0 &&& (3 : Int32))), .val (.int ((((p0.toUInt32 >>> ((2 : Int32) &&& 31).toUInt32).toInt32) &&& (1 : Int32)) + (1 : Int32))), .val (.int ((((p0.toUInt32 >>> ((3 : Int32) &&& 31).toUInt32).toInt32) &&& (1 : Int32)) + (1 : Int32))), .val (.int ((((p0.toUInt32 >>> ((4 : Int32) &&& 31).toUInt32).toInt32) &&& (1 : Int32)) + (1 : Int32))), .val (.ref b11), .val (.int (4 : Int32)), .val (.int (2 : Int32)), .unset, .unset, .unset, .unset] [])) _
              refine S.iload X.here hx (hb hby at_150) rfl ?_
              refine S.iconst X.here hx (1 : Int32) (hb hby at_152) rfl ?_
              refine S.iaddV X.here hx (5 : Int32) (hb hby at_153) rfl ?_
              refine S.istore X.here hx (hb hby at_154) #[.val (.int p0), .val (.long p1), .second, .val (.int (p0 &&& (3 : Int32))), .val (.int ((((p0.toUInt32 >>> ((2 : Int32) &&& 31).toUInt32).toInt32) &&& (1 : Int32)) + (1 : Int32))), .val (.int ((((p0.toUInt32 >>> ((3 : Int32) &&& 31).toUInt32).toInt32) &&& (1 : Int32)) + (1 : Int32))), .val (.int ((((p0.toUInt32 >>> ((4 : Int32) &&& 31).toUInt32).toInt32) &&& (1 : Int32)) + (1 : Int32))), .val (.ref b11), .val (.int (5 : Int32)), .val (.int (2 : Int32)), .unset, .unset, .unset, .unset] rfl ?_
              refine S.iload X.here hx (hb hby at_156) rfl ?_
              refine S.istore X.here hx (hb hby at_158) #[.val (.int p0), .val (.long p1), .second, .val (.int (p0 &&& (3 : Int32))), .val (.int ((((p0.toUInt32 >>> ((2 : Int32) &&& 31).toUInt32).toInt32) &&& (1 : Int32)) + (1 : Int32))), .val (.int ((((p0.toUInt32 >>> ((3 : Int32) &&& 31).toUInt32).toInt32) &&& (1 : Int32)) + (1 : Int32))), .val (.int ((((p0.toUInt32 >>> ((4 : Int32) &&& 31).toUInt32).toInt32) &&& (1 : Int32)) + (1 : Int32))), .val (.ref b11), .val (.int (5 : Int32)), .val (.int (2 : Int32)), .val (.int (5 : Int32)), .unset, .unset, .unset] rfl ?_
              refine S.iloadN X.here hx (hb hby at_160) rfl ?_
              refine S.iconst X.here hx (3 : Int32) (hb hby at_161) rfl ?_
              exact k)
          by_cases hc53 : (p0 &&& (3 : Int32)) < (3 : Int32)
          · have w54 := w52.pure (mkF m 220 #[.val (.int p0), .val (.long p1), .second, .val (.int (p0 &&& (3 : Int32))), .val (.int ((((p0.toUInt32 >>> ((2 : Int32) &&& 31).toUInt32).toInt32) &&& (1 : Int32)) + (1 : Int32))), .val (.int ((((p0.toUInt32 >>> ((3 : Int32) &&& 31).toUInt32).toInt32) &&& (1 : Int32)) + (1 : Int32))), .val (.int ((((p0.toUInt32 >>> ((4 : Int32) &&& 31).toUInt32).toInt32) &&& (1 : Int32)) + (1 : Int32))), .val (.ref b11), .val (.int (5 : Int32)), .val (.int (2 : Int32)), .val (.int (5 : Int32)), .unset, .unset, .unset] [(.int (5 : Int32)), (.ref b11)]) (fun X eT hZ hown k => by
                show Steps _ _ _ (State.setTop _ (mkF m 162 #[.val (.int p0), .val (.long p1), .second, .val (.int (p0 &&& (3 : Int32))), .val (.int ((((p0.toUInt32 >>> ((2 : Int32) &&& 31).toUInt32).toInt32) &&& (1 : Int32)) + (1 : Int32))), .val (.int ((((p0.toUInt32 >>> ((3 : Int32) &&& 31).toUInt32).toInt32) &&& (1 : Int32)) + (1 : Int32))), .val (.int ((((p0.toUInt32 >>> ((4 : Int32) &&& 31).toUInt32).toInt32) &&& (1 : Int32)) + (1 : Int32))), .val (.ref b11), .val (.int (5 : Int32)), .val (.int (2 : Int32)), .val (.int (5 : Int32)), .unset, .unset, .unset] [(.int (3 : Int32)), (.int (p0 &&& (3 : Int32)))])) _
                refine S.icmpYes X.here hx 216 (hb hby at_162) (tlt hc53).1 (by decide) (by decide) ?_
                refine S.aload X.here hx (hb hby at_216) rfl rfl ?_
                refine S.iload X.here hx (hb hby at_218) rfl ?_
                exact k)
            have F55 := X0.ext E11
            have F56 := F55.wr W15 (by omega)
            have F57 := F56.wr W21 (by omega)
            have F58 := F57.wr W40 (by omega)
            have F59 := F58.wr W44 (by omega)
            have F60 := F59.wr W50 (by omega)
            obtain ⟨v61, h61, Q61, K61, z61, w61⟩ := w54.callS hx (y := (⟨"com/example/bylaw/bylaw/TreePathParentPinLaw", "str", "([CI)Ljava/lang/String;"⟩ : MethodName)) (W := 0) (hw _ (List.mem_of_getElem? (i := 24) rfl)) (hw _ (List.mem_of_getElem? (i := 25) rfl)) (hw _ (List.mem_of_getElem? (i := 21) rfl)) (hw _ (List.mem_of_getElem? (i := 26) rfl)) (by decide) ((rmt5 l Z a0 hw b11 k11 (own_ch p1 (0 : Int32)) (own_ch p1 (1 : Int32)) (47 : Int32) (own_ch p1 (2 : Int32)) (own_ch p1 (3 : Int32)) (0 : Int32) (0 : Int32) (0 : Int32) h50 n0 (by omega) hG F60 U50 (own_ch_ok _ _).1 (own_ch_ok _ _).1 (by decide) (own_ch_ok _ _).1 (own_ch_ok _ _).1 (by decide) (by decide) (by decide)).pay w54.hZ (hw _ (List.mem_of_getElem? (i := 26) rfl)) (hw _ (List.mem_of_getElem? (i := 21) rfl)) (by decide) (by decide)) rfl (by rw [hml]; rfl) [] (lenOf pd_17 rfl) rfl (by show 2 * 0 + _ ≤ _; exact Nat.le_of_eq rfl) (hb hby at_220) (by decide) (by decide) (fun _ q => nomatch q) (fun rv => (mkF m 223 #[.val (.int p0), .val (.long p1), .second, .val (.int (p0 &&& (3 : Int32))), .val (.int ((((p0.toUInt32 >>> ((2 : Int32) &&& 31).toUInt32).toInt32) &&& (1 : Int32)) + (1 : Int32))), .val (.int ((((p0.toUInt32 >>> ((3 : Int32) &&& 31).toUInt32).toInt32) &&& (1 : Int32)) + (1 : Int32))), .val (.int ((((p0.toUInt32 >>> ((4 : Int32) &&& 31).toUInt32).toInt32) &&& (1 : Int32)) + (1 : Int32))), .val (.ref b11), .val (.int (5 : Int32)), .val (.int (2 : Int32)), .val (.int (5 : Int32)), .unset, .unset, .unset] (rv.toList ++ []))) (fun _ => rfl)
            obtain ⟨x61, rfl, gx61, S61⟩ := Q61
            have K62 : Keep h0 h61 [] := K51.trans K61 (fun _ q => nomatch q)
            have lt_x61 := S61.lt
            have w63 := w61.pure (mkF m 246 #[.val (.int p0), .val (.long p1), .second, .val (.int (p0 &&& (3 : Int32))), .val (.int ((((p0.toUInt32 >>> ((2 : Int32) &&& 31).toUInt32).toInt32) &&& (1 : Int32)) + (1 : Int32))), .val (.int ((((p0.toUInt32 >>> ((3 : Int32) &&& 31).toUInt32).toInt32) &&& (1 : Int32)) + (1 : Int32))), .val (.int ((((p0.toUInt32 >>> ((4 : Int32) &&& 31).toUInt32).toInt32) &&& (1 : Int32)) + (1 : Int32))), .val (.ref b11), .val (.int (5 : Int32)), .val (.int (2 : Int32)), .val (.int (5 : Int32)), .val (.ref x61), .unset, .unset] [(.int (2 : Int32)), (.ref b11)]) (fun X eT hZ hown k => by
                show Steps _ _ _ (State.setTop _ (mkF m 223 #[.val (.int p0), .val (.long p1), .second, .val (.int (p0 &&& (3 : Int32))), .val (.int ((((p0.toUInt32 >>> ((2 : Int32) &&& 31).toUInt32).toInt32) &&& (1 : Int32)) + (1 : Int32))), .val (.int ((((p0.toUInt32 >>> ((3 : Int32) &&& 31).toUInt32).toInt32) &&& (1 : Int32)) + (1 : Int32))), .val (.int ((((p0.toUInt32 >>> ((4 : Int32) &&& 31).toUInt32).toInt32) &&& (1 : Int32)) + (1 : Int32))), .val (.ref b11), .val (.int (5 : Int32)), .val (.int (2 : Int32)), .val (.int (5 : Int32)), .unset, .unset, .unset] [(.ref x61)])) _
                refine S.astore X.here hx (hb hby at_223) rfl #[.val (.int p0), .val (.long p1), .second, .val (.int (p0 &&& (3 : Int32))), .val (.int ((((p0.toUInt32 >>> ((2 : Int32) &&& 31).toUInt32).toInt32) &&& (1 : Int32)) + (1 : Int32))), .val (.int ((((p0.toUInt32 >>> ((3 : Int32) &&& 31).toUInt32).toInt32) &&& (1 : Int32)) + (1 : Int32))), .val (.int ((((p0.toUInt32 >>> ((4 : Int32) &&& 31).toUInt32).toInt32) &&& (1 : Int32)) + (1 : Int32))), .val (.ref b11), .val (.int (5 : Int32)), .val (.int (2 : Int32)), .val (.int (5 : Int32)), .val (.ref x61), .unset, .unset] rfl ?_
                refine S.iloadN X.here hx (hb hby at_225) rfl ?_
                refine S.iconst X.here hx (1 : Int32) (hb hby at_226) rfl ?_
                refine S.icmpYes X.here hx 237 (hb hby at_227) (feq (own_sh.2.2.1 hc24)).2 (by decide) (by decide) ?_
                refine S.iloadN X.here hx (hb hby at_237) rfl ?_
                refine S.iconst X.here hx (2 : Int32) (hb hby at_238) rfl ?_
                refine S.icmpNo X.here hx (hb hby at_239) (teq (own_sh.2.2.2.1 hc24 hc53)).2 ?_
                refine S.aload X.here hx (hb hby at_242) rfl rfl ?_
                refine S.iload X.here hx (hb hby at_244) rfl ?_
                exact k)
            have F64 := F60.keep K61 all0
            have F65 := U50.keep K61 nin0
            obtain ⟨v66, h66, Q66, K66, z66, w66⟩ := w63.callS hx (y := (⟨"com/example/bylaw/bylaw/TreePathParentPinLaw", "str", "([CI)Ljava/lang/String;"⟩ : MethodName)) (W := 0) (hw _ (List.mem_of_getElem? (i := 24) rfl)) (hw _ (List.mem_of_getElem? (i := 25) rfl)) (hw _ (List.mem_of_getElem? (i := 21) rfl)) (hw _ (List.mem_of_getElem? (i := 26) rfl)) (by decide) ((rmt2 l Z a0 hw b11 k11 (own_ch p1 (0 : Int32)) (own_ch p1 (1 : Int32)) (47 : Int32) (own_ch p1 (2 : Int32)) (own_ch p1 (3 : Int32)) (0 : Int32) (0 : Int32) (0 : Int32) h61 n0 (by omega) hG F64 F65 (own_ch_ok _ _).1 (own_ch_ok _ _).1 (by decide) (own_ch_ok _ _).1 (own_ch_ok _ _).1 (by decide) (by decide) (by decide)).pay w63.hZ (hw _ (List.mem_of_getElem? (i := 26) rfl)) (hw _ (List.mem_of_getElem? (i := 21) rfl)) (by decide) (by decide)) rfl (by rw [hml]; rfl) [] (lenOf pd_17 rfl) rfl (by show 2 * 0 + _ ≤ _; exact Nat.le_of_eq rfl) (hb hby at_246) (by decide) (by decide) (fun _ q => nomatch q) (fun rv => (mkF m 249 #[.val (.int p0), .val (.long p1), .second, .val (.int (p0 &&& (3 : Int32))), .val (.int ((((p0.toUInt32 >>> ((2 : Int32) &&& 31).toUInt32).toInt32) &&& (1 : Int32)) + (1 : Int32))), .val (.int ((((p0.toUInt32 >>> ((3 : Int32) &&& 31).toUInt32).toInt32) &&& (1 : Int32)) + (1 : Int32))), .val (.int ((((p0.toUInt32 >>> ((4 : Int32) &&& 31).toUInt32).toInt32) &&& (1 : Int32)) + (1 : Int32))), .val (.ref b11), .val (.int (5 : Int32)), .val (.int (2 : Int32)), .val (.int (5 : Int32)), .val (.ref x61), .unset, .unset] (rv.toList ++ []))) (fun _ => rfl)
            obtain ⟨x66, rfl, gx66, S66⟩ := Q66
            have K67 : Keep h0 h66 [] := K62.trans K66 (fun _ q => nomatch q)
            have lt_x66 := S66.lt
            have w68 := w66.pure (mkF m 263 #[.val (.int p0), .val (.long p1), .second, .val (.int (p0 &&& (3 : Int32))), .val (.int ((((p0.toUInt32 >>> ((2 : Int32) &&& 31).toUInt32).toInt32) &&& (1 : Int32)) + (1 : Int32))), .val (.int ((((p0.toUInt32 >>> ((3 : Int32) &&& 31).toUInt32).toInt32) &&& (1 : Int32)) + (1 : Int32))), .val (.int ((((p0.toUInt32 >>> ((4 : Int32) &&& 31).toUInt32).toInt32) &&& (1 : Int32)) + (1 : Int32))), .val (.ref b11), .val (.int (5 : Int32)), .val (.int (2 : Int32)), .val (.int (5 : Int32)), .val (.ref x61), .val (.ref x66), .unset] []) (fun X eT hZ hown k => by
                show Steps _ _ _ (State.setTop _ (mkF m 249 #[.val (.int p0), .val (.long p1), .second, .val (.int (p0 &&& (3 : Int32))), .val (.int ((((p0.toUInt32 >>> ((2 : Int32) &&& 31).toUInt32).toInt32) &&& (1 : Int32)) + (1 : Int32))), .val (.int ((((p0.toUInt32 >>> ((3 : Int32) &&& 31).toUInt32).toInt32) &&& (1 : Int32)) + (1 : Int32))), .val (.int ((((p0.toUInt32 >>> ((4 : Int32) &&& 31).toUInt32).toInt32) &&& (1 : Int32)) + (1 : Int32))), .val (.ref b11), .val (.int (5 : Int32)), .val (.int (2 : Int32)), .val (.int (5 : Int32)), .val (.ref x61), .unset, .unset] [(.ref x66)])) _
                refine S.astore X.here hx (hb hby at_249) rfl #[.val (.int p0), .val (.long p1), .second, .val (.int (p0 &&& (3 : Int32))), .val (.int ((((p0.toUInt32 >>> ((2 : Int32) &&& 31).toUInt32).toInt32) &&& (1 : Int32)) + (1 : Int32))), .val (.int ((((p0.toUInt32 >>> ((3 : Int32) &&& 31).toUInt32).toInt32) &&& (1 : Int32)) + (1 : Int32))), .val (.int ((((p0.toUInt32 >>> ((4 : Int32) &&& 31).toUInt32).toInt32) &&& (1 : Int32)) + (1 : Int32))), .val (.ref b11), .val (.int (5 : Int32)), .val (.int (2 : Int32)), .val (.int (5 : Int32)), .val (.ref x61), .val (.ref x66), .unset] rfl ?_
                refine S.goto X.here hx 263 (hb hby at_251) (by decide) (by decide) ?_
                exact k)
            have pp69 := own_pp_ccscc (own_ch p1 (0 : Int32)) (own_ch p1 (1 : Int32)) (own_ch p1 (2 : Int32)) (own_ch p1 (3 : Int32)) (own_ch_ok _ _).2 (own_ch_ok _ _).2 (own_ch_ok _ _).2 (own_ch_ok _ _).2
            have F70 := F64.keep K66 all0
            have F71 := S61.keep K66 all0
            exact ptT l Z a0 hw hE Bd hml p0 (p0 &&& (3 : Int32)) ((((p0.toUInt32 >>> ((2 : Int32) &&& 31).toUInt32).toInt32) &&& (1 : Int32)) + (1 : Int32)) ((((p0.toUInt32 >>> ((3 : Int32) &&& 31).toUInt32).toInt32) &&& (1 : Int32)) + (1 : Int32)) ((((p0.toUInt32 >>> ((4 : Int32) &&& 31).toUInt32).toInt32) &&& (1 : Int32)) + (1 : Int32)) (5 : Int32) (2 : Int32) (5 : Int32) p1 b11 x61 x66 [(own_ch p1 (0 : Int32)), (own_ch p1 (1 : Int32)), (47 : Int32), (own_ch p1 (2 : Int32)), (own_ch p1 (3 : Int32))] [(own_ch p1 (0 : Int32)), (own_ch p1 (1 : Int32))] h0 n0 Z0 (w68.more (k := 16) (n := 160) (by decide) (by decide)) K67 (by omega) hG F70 (F71.more (by omega)) (S66.more (by omega)) pp69.1 pp69.2.1 pp69.2.2.1 pp69.2.2.2
          · have w72 := w52.pure (mkF m 171 #[.val (.int p0), .val (.long p1), .second, .val (.int (p0 &&& (3 : Int32))), .val (.int ((((p0.toUInt32 >>> ((2 : Int32) &&& 31).toUInt32).toInt32) &&& (1 : Int32)) + (1 : Int32))), .val (.int ((((p0.toUInt32 >>> ((3 : Int32) &&& 31).toUInt32).toInt32) &&& (1 : Int32)) + (1 : Int32))), .val (.int ((((p0.toUInt32 >>> ((4 : Int32) &&& 31).toUInt32).toInt32) &&& (1 : Int32)) + (1 : Int32))), .val (.ref b11), .val (.int (5 : Int32)), .val (.int (2 : Int32)), .val (.int (5 : Int32)), .unset, .unset, .unset] [(.int (47 : Int32)), (.int (5 : Int32)), (.ref b11)]) (fun X eT hZ hown k => by
                show Steps _ _ _ (State.setTop _ (mkF m 162 #[.val (.int p0), .val (.long p1), .second, .val (.int (p0 &&& (3 : Int32))), .val (.int ((((p0.toUInt32 >>> ((2 : Int32) &&& 31).toUInt32).toInt32) &&& (1 : Int32)) + (1 : Int32))), .val (.int ((((p0.toUInt32 >>> ((3 : Int32) &&& 31).toUInt32).toInt32) &&& (1 : Int32)) + (1 : Int32))), .val (.int ((((p0.toUInt32 >>> ((4 : Int32) &&& 31).toUInt32).toInt32) &&& (1 : Int32)) + (1 : Int32))), .val (.ref b11), .val (.int (5 : Int32)), .val (.int (2 : Int32)), .val (.int (5 : Int32)), .unset, .unset, .unset] [(.int (3 : Int32)), (.int (p0 &&& (3 : Int32)))])) _
                refine S.icmpNo X.here hx (hb hby at_162) (flt hc53).1 ?_
                refine S.aload X.here hx (hb hby at_165) rfl rfl ?_
                refine S.iload X.here hx (hb hby at_167) rfl ?_
                refine S.bipush X.here hx (47 : Int32) (hb hby at_169) rfl ?_
                exact k)
            obtain ⟨h73, W73, z73, V73, w73⟩ := w72.stC hx U50 5 rfl (Nat.le_of_ble_eq_true rfl) ⟨by decide, by decide⟩ rfl rfl (hb hby at_171) (by omega) (mkF m 172 #[.val (.int p0), .val (.long p1), .second, .val (.int (p0 &&& (3 : Int32))), .val (.int ((((p0.toUInt32 >>> ((2 : Int32) &&& 31).toUInt32).toInt32) &&& (1 : Int32)) + (1 : Int32))), .val (.int ((((p0.toUInt32 >>> ((3 : Int32) &&& 31).toUInt32).toInt32) &&& (1 : Int32)) + (1 : Int32))), .val (.int ((((p0.toUInt32 >>> ((4 : Int32) &&& 31).toUInt32).toInt32) &&& (1 : Int32)) + (1 : Int32))), .val (.ref b11), .val (.int (5 : Int32)), .val (.int (2 : Int32)), .val (.int (5 : Int32)), .unset, .unset, .unset] []) rfl
            rw [show nar .char (47 : Int32) = (47 : Int32) from rfl] at V73
            have U73 : Arv Z h73 b11 k11 .char (8 : Int32) [(.int (own_ch p1 (0 : Int32))), (.int (own_ch p1 (1 : Int32))), (.int (47 : Int32)), (.int (own_ch p1 (2 : Int32))), (.int (own_ch p1 (3 : Int32))), (.int (47 : Int32)), (.int (0 : Int32)), (.int (0 : Int32))] (.int (0 : Int32)) := V73
            have K74 : Keep h0 h73 [] := K51.wr W73 (Or.inr (by omega))
            have w75 := w73.pure (mkF m 184 #[.val (.int p0), .val (.long p1), .second, .val (.int (p0 &&& (3 : Int32))), .val (.int ((((p0.toUInt32 >>> ((2 : Int32) &&& 31).toUInt32).toInt32) &&& (1 : Int32)) + (1 : Int32))), .val (.int ((((p0.toUInt32 >>> ((3 : Int32) &&& 31).toUInt32).toInt32) &&& (1 : Int32)) + (1 : Int32))), .val (.int ((((p0.toUInt32 >>> ((4 : Int32) &&& 31).toUInt32).toInt32) &&& (1 : Int32)) + (1 : Int32))), .val (.ref b11), .val (.int (6 : Int32)), .val (.int (2 : Int32)), .val (.int (5 : Int32)), .unset, .unset, .unset] [(.int (4 : Int32)), (.long p1), (.int (6 : Int32)), (.ref b11)]) (fun X eT hZ hown k => by
                show Steps _ _ _ (State.setTop _ (mkF m 172 #[.val (.int p0), .val (.long p1), .second, .val (.int (p0 &&& (3 : Int32))), .val (.int ((((p0.toUInt32 >>> ((2 : Int32) &&& 31).toUInt32).toInt32) &&& (1 : Int32)) + (1 : Int32))), .val (.int ((((p0.toUInt32 >>> ((3 : Int32) &&& 31).toUInt32).toInt32) &&& (1 : Int32)) + (1 : Int32))), .val (.int ((((p0.toUInt32 >>> ((4 : Int32) &&& 31).toUInt32).toInt32) &&& (1 : Int32)) + (1 : Int32))), .val (.ref b11), .val (.int (5 : Int32)), .val (.int (2 : Int32)), .val (.int (5 : Int32)), .unset, .unset, .unset] [])) _
                refine S.iload X.here hx (hb hby at_172) rfl ?_
                refine S.iconst X.here hx (1 : Int32) (hb hby at_174) rfl ?_
                refine S.iaddV X.here hx (6 : Int32) (hb hby at_175) rfl ?_
                refine S.istore X.here hx (hb hby at_176) #[.val (.int p0), .val (.long p1), .second, .val (.int (p0 &&& (3 : Int32))), .val (.int ((((p0.toUInt32 >>> ((2 : Int32) &&& 31).toUInt32).toInt32) &&& (1 : Int32)) + (1 : Int32))), .val (.int ((((p0.toUInt32 >>> ((3 : Int32) &&& 31).toUInt32).toInt32) &&& (1 : Int32)) + (1 : Int32))), .val (.int ((((p0.toUInt32 >>> ((4 : Int32) &&& 31).toUInt32).toInt32) &&& (1 : Int32)) + (1 : Int32))), .val (.ref b11), .val (.int (6 : Int32)), .val (.int (2 : Int32)), .val (.int (5 : Int32)), .unset, .unset, .unset] rfl ?_
                refine S.aload X.here hx (hb hby at_178) rfl rfl ?_
                refine S.iload X.here hx (hb hby at_180) rfl ?_
                refine S.lloadN X.here hx (hb hby at_182) rfl ?_
                refine S.iconst X.here hx (4 : Int32) (hb hby at_183) rfl ?_
                exact k)
            obtain ⟨v76, h76, Q76, K76, z76, w76⟩ := w75.callS hx (y := (⟨"com/example/bylaw/bylaw/TreePathParentPinLaw", "ch", "(JI)C"⟩ : MethodName)) (W := 2) (hw _ (List.mem_of_getElem? (i := 19) rfl)) (hw _ (List.mem_of_getElem? (i := 20) rfl)) (hw _ (List.mem_of_getElem? (i := 21) rfl)) (hw _ (List.mem_of_getElem? (i := 22) rfl)) (by decide) ((rmch l Z a0 hw p1 (4 : Int32) h73 n0 (by omega)).pay w75.hZ (hw _ (List.mem_of_getElem? (i := 22) rfl)) (hw _ (List.mem_of_getElem? (i := 21) rfl)) (by decide) (by decide)) rfl (by rw [hml]; rfl) [(.int (6 : Int32)), (.ref b11)] (lenOf pd_16 rfl) rfl (by show 2 * 0 + _ ≤ _; exact Nat.le_of_eq rfl) (hb hby at_184) (by decide) (by decide) (fun _ q => nomatch q) (fun rv => (mkF m 187 #[.val (.int p0), .val (.long p1), .second, .val (.int (p0 &&& (3 : Int32))), .val (.int ((((p0.toUInt32 >>> ((2 : Int32) &&& 31).toUInt32).toInt32) &&& (1 : Int32)) + (1 : Int32))), .val (.int ((((p0.toUInt32 >>> ((3 : Int32) &&& 31).toUInt32).toInt32) &&& (1 : Int32)) + (1 : Int32))), .val (.int ((((p0.toUInt32 >>> ((4 : Int32) &&& 31).toUInt32).toInt32) &&& (1 : Int32)) + (1 : Int32))), .val (.ref b11), .val (.int (6 : Int32)), .val (.int (2 : Int32)), .val (.int (5 : Int32)), .unset, .unset, .unset] (rv.toList ++ [(.int (6 : Int32)), (.ref b11)]))) (fun _ => rfl)
            obtain ⟨rfl, rfl⟩ := Q76
            obtain ⟨h77, W77, z77, V77, w77⟩ := w76.stC hx U73 6 rfl (Nat.le_of_ble_eq_true rfl) ⟨by decide, by decide⟩ rfl rfl (hb hby at_187) (by omega) (mkF m 188 #[.val (.int p0), .val (.long p1), .second, .val (.int (p0 &&& (3 : Int32))), .val (.int ((((p0.toUInt32 >>> ((2 : Int32) &&& 31).toUInt32).toInt32) &&& (1 : Int32)) + (1 : Int32))), .val (.int ((((p0.toUInt32 >>> ((3 : Int32) &&& 31).toUInt32).toInt32) &&& (1 : Int32)) + (1 : Int32))), .val (.int ((((p0.toUInt32 >>> ((4 : Int32) &&& 31).toUInt32).toInt32) &&& (1 : Int32)) + (1 : Int32))), .val (.ref b11), .val (.int (6 : Int32)), .val (.int (2 : Int32)), .val (.int (5 : Int32)), .unset, .unset, .unset] []) rfl
            rw [nar_rng (own_ch_ok _ _).1] at V77
            have U77 : Arv Z h77 b11 k11 .char (8 : Int32) [(.int (own_ch p1 (0 : Int32))), (.int (own_ch p1 (1 : Int32))), (.int (47 : Int32)), (.int (own_ch p1 (2 : Int32))), (.int (own_ch p1 (3 : Int32))), (.int (47 : Int32)), (.int (own_ch p1 (4 : Int32))), (.int (0 : Int32))] (.int (0 : Int32)) := V77
            have K78 : Keep h0 h77 [] := K74.wr W77 (Or.inr (by omega))
            have w79 := w77.pure (mkF m 197 #[.val (.int p0), .val (.long p1), .second, .val (.int (p0 &&& (3 : Int32))), .val (.int ((((p0.toUInt32 >>> ((2 : Int32) &&& 31).toUInt32).toInt32) &&& (1 : Int32)) + (1 : Int32))), .val (.int ((((p0.toUInt32 >>> ((3 : Int32) &&& 31).toUInt32).toInt32) &&& (1 : Int32)) + (1 : Int32))), .val (.int ((((p0.toUInt32 >>> ((4 : Int32) &&& 31).toUInt32).toInt32) &&& (1 : Int32)) + (1 : Int32))), .val (.ref b11), .val (.int (7 : Int32)), .val (.int (2 : Int32)), .val (.int (5 : Int32)), .unset, .unset, .unset] [(.int (2 : Int32)), (.int ((((p0.toUInt32 >>> ((4 : Int32) &&& 31).toUInt32).toInt32) &&& (1 : Int32)) + (1 : Int32)))]) (fun X eT hZ hown k => by
                show Steps _ _ _ (State.setTop _ (mkF m 188 #[.val (.int p0), .val (.long p1), .second, .val (.int (p0 &&& (3 : Int32))), .val (.int ((((p0.toUInt32 >>> ((2 : Int32) &&& 31).toUInt32).toInt32) &&& (1 : Int32)) + (1 : Int32))), .val (.int ((((p0.toUInt32 >>> ((3 : Int32) &&& 31).toUInt32).toInt32) &&& (1 : Int32)) + (1 : Int32))), .val (.int ((((p0.toUInt32 >>> ((4 : Int32) &&& 31).toUInt32).toInt32) &&& (1 : Int32)) + (1 : Int32))), .val (.ref b11), .val (.int (6 : Int32)), .val (.int (2 : Int32)), .val (.int (5 : Int32)), .unset, .unset, .unset] [])) _
                refine S.iload X.here hx (hb hby at_188) rfl ?_
                refine S.iconst X.here hx (1 : Int32) (hb hby at_190) rfl ?_
                refine S.iaddV X.here hx (7 : Int32) (hb hby at_191) rfl ?_
                refine S.istore X.here hx (hb hby at_192) #[.val (.int p0), .val (.long p1), .second, .val (.int (p0 &&& (3 : Int32))), .val (.int ((((p0.toUInt32 >>> ((2 : Int32) &&& 31).toUInt32).toInt32) &&& (1 : Int32)) + (1 : Int32))), .val (.int ((((p0.toUInt32 >>> ((3 : Int32) &&& 31).toUInt32).toInt32) &&& (1 : Int32)) + (1 : Int32))), .val (.int ((((p0.toUInt32 >>> ((4 : Int32) &&& 31).toUInt32).toInt32) &&& (1 : Int32)) + (1 : Int32))), .val (.ref b11), .val (.int (7 : Int32)), .val (.int (2 : Int32)), .val (.int (5 : Int32)), .unset, .unset, .unset] rfl ?_
                refine S.iload X.here hx (hb hby at_194) rfl ?_
                refine S.iconst X.here hx (2 : Int32) (hb hby at_196) rfl ?_
                exact k)
            by_cases hc80 : ((((p0.toUInt32 >>> ((4 : Int32) &&& 31).toUInt32).toInt32) &&& (1 : Int32)) + (1 : Int32)) = (2 : Int32)
            · have w81 := w79.pure (mkF m 206 #[.val (.int p0), .val (.long p1), .second, .val (.int (p0 &&& (3 : Int32))), .val (.int ((((p0.toUInt32 >>> ((2 : Int32) &&& 31).toUInt32).toInt32) &&& (1 : Int32)) + (1 : Int32))), .val (.int ((((p0.toUInt32 >>> ((3 : Int32) &&& 31).toUInt32).toInt32) &&& (1 : Int32)) + (1 : Int32))), .val (.int ((((p0.toUInt32 >>> ((4 : Int32) &&& 31).toUInt32).toInt32) &&& (1 : Int32)) + (1 : Int32))), .val (.ref b11), .val (.int (7 : Int32)), .val (.int (2 : Int32)), .val (.int (5 : Int32)), .unset, .unset, .unset] [(.int (5 : Int32)), (.long p1), (.int (7 : Int32)), (.ref b11)]) (fun X eT hZ hown k => by
                  show Steps _ _ _ (State.setTop _ (mkF m 197 #[.val (.int p0), .val (.long p1), .second, .val (.int (p0 &&& (3 : Int32))), .val (.int ((((p0.toUInt32 >>> ((2 : Int32) &&& 31).toUInt32).toInt32) &&& (1 : Int32)) + (1 : Int32))), .val (.int ((((p0.toUInt32 >>> ((3 : Int32) &&& 31).toUInt32).toInt32) &&& (1 : Int32)) + (1 : Int32))), .val (.int ((((p0.toUInt32 >>> ((4 : Int32) &&& 31).toUInt32).toInt32) &&& (1 : Int32)) + (1 : Int32))), .val (.ref b11), .val (.int (7 : Int32)), .val (.int (2 : Int32)), .val (.int (5 : Int32)), .unset, .unset, .unset] [(.int (2 : Int32)), (.int ((((p0.toUInt32 >>> ((4 : Int32) &&& 31).toUInt32).toInt32) &&& (1 : Int32)) + (1 : Int32)))])) _
                  refine S.icmpNo X.here hx (hb hby at_197) (teq hc80).2 ?_
                  refine S.aload X.here hx (hb hby at_200) rfl rfl ?_
                  refine S.iload X.here hx (hb hby at_202) rfl ?_
                  refine S.lloadN X.here hx (hb hby at_204) rfl ?_
                  refine S.iconst X.here hx (5 : Int32) (hb hby at_205) rfl ?_
                  exact k)
              obtain ⟨v82, h82, Q82, K82, z82, w82⟩ := w81.callS hx (y := (⟨"com/example/bylaw/bylaw/TreePathParentPinLaw", "ch", "(JI)C"⟩ : MethodName)) (W := 2) (hw _ (List.mem_of_getElem? (i := 19) rfl)) (hw _ (List.mem_of_getElem? (i := 20) rfl)) (hw _ (List.mem_of_getElem? (i := 21) rfl)) (hw _ (List.mem_of_getElem? (i := 22) rfl)) (by decide) ((rmch l Z a0 hw p1 (5 : Int32) h77 n0 (by omega)).pay w81.hZ (hw _ (List.mem_of_getElem? (i := 22) rfl)) (hw _ (List.mem_of_getElem? (i := 21) rfl)) (by decide) (by decide)) rfl (by rw [hml]; rfl) [(.int (7 : Int32)), (.ref b11)] (lenOf pd_16 rfl) rfl (by show 2 * 0 + _ ≤ _; exact Nat.le_of_eq rfl) (hb hby at_206) (by decide) (by decide) (fun _ q => nomatch q) (fun rv => (mkF m 209 #[.val (.int p0), .val (.long p1), .second, .val (.int (p0 &&& (3 : Int32))), .val (.int ((((p0.toUInt32 >>> ((2 : Int32) &&& 31).toUInt32).toInt32) &&& (1 : Int32)) + (1 : Int32))), .val (.int ((((p0.toUInt32 >>> ((3 : Int32) &&& 31).toUInt32).toInt32) &&& (1 : Int32)) + (1 : Int32))), .val (.int ((((p0.toUInt32 >>> ((4 : Int32) &&& 31).toUInt32).toInt32) &&& (1 : Int32)) + (1 : Int32))), .val (.ref b11), .val (.int (7 : Int32)), .val (.int (2 : Int32)), .val (.int (5 : Int32)), .unset, .unset, .unset] (rv.toList ++ [(.int (7 : Int32)), (.ref b11)]))) (fun _ => rfl)
              obtain ⟨rfl, rfl⟩ := Q82
              obtain ⟨h83, W83, z83, V83, w83⟩ := w82.stC hx U77 7 rfl (Nat.le_of_ble_eq_true rfl) ⟨by decide, by decide⟩ rfl rfl (hb hby at_209) (by omega) (mkF m 210 #[.val (.int p0), .val (.long p1), .second, .val (.int (p0 &&& (3 : Int32))), .val (.int ((((p0.toUInt32 >>> ((2 : Int32) &&& 31).toUInt32).toInt32) &&& (1 : Int32)) + (1 : Int32))), .val (.int ((((p0.toUInt32 >>> ((3 : Int32) &&& 31).toUInt32).toInt32) &&& (1 : Int32)) + (1 : Int32))), .val (.int ((((p0.toUInt32 >>> ((4 : Int32) &&& 31).toUInt32).toInt32) &&& (1 : Int32)) + (1 : Int32))), .val (.ref b11), .val (.int (7 : Int32)), .val (.int (2 : Int32)), .val (.int (5 : Int32)), .unset, .unset, .unset] []) rfl
              rw [nar_rng (own_ch_ok _ _).1] at V83
              have U83 : Arv Z h83 b11 k11 .char (8 : Int32) [(.int (own_ch p1 (0 : Int32))), (.int (own_ch p1 (1 : Int32))), (.int (47 : Int32)), (.int (own_ch p1 (2 : Int32))), (.int (own_ch p1 (3 : Int32))), (.int (47 : Int32)), (.int (own_ch p1 (4 : Int32))), (.int (own_ch p1 (5 : Int32)))] (.int (0 : Int32)) := V83
              have K84 : Keep h0 h83 [] := K78.wr W83 (Or.inr (by omega))
              have w85 := w83.pure (mkF m 220 #[.val (.int p0), .val (.long p1), .second, .val (.int (p0 &&& (3 : Int32))), .val (.int ((((p0.toUInt32 >>> ((2 : Int32) &&& 31).toUInt32).toInt32) &&& (1 : Int32)) + (1 : Int32))), .val (.int ((((p0.toUInt32 >>> ((3 : Int32) &&& 31).toUInt32).toInt32) &&& (1 : Int32)) + (1 : Int32))), .val (.int ((((p0.toUInt32 >>> ((4 : Int32) &&& 31).toUInt32).toInt32) &&& (1 : Int32)) + (1 : Int32))), .val (.ref b11), .val (.int (8 : Int32)), .val (.int (2 : Int32)), .val (.int (5 : Int32)), .unset, .unset, .unset] [(.int (8 : Int32)), (.ref b11)]) (fun X eT hZ hown k => by
                  show Steps _ _ _ (State.setTop _ (mkF m 210 #[.val (.int p0), .val (.long p1), .second, .val (.int (p0 &&& (3 : Int32))), .val (.int ((((p0.toUInt32 >>> ((2 : Int32) &&& 31).toUInt32).toInt32) &&& (1 : Int32)) + (1 : Int32))), .val (.int ((((p0.toUInt32 >>> ((3 : Int32) &&& 31).toUInt32).toInt32) &&& (1 : Int32)) + (1 : Int32))), .val (.int ((((p0.toUInt32 >>> ((4 : Int32) &&& 31).toUInt32).toInt32) &&& (1 : Int32)) + (1 : Int32))), .val (.ref b11), .val (.int (7 : Int32)), .val (.int (2 : Int32)), .val (.int (5 : Int32)), .unset, .unset, .unset] [])) _
                  refine S.iload X.here hx (hb hby at_210) rfl ?_
                  refine S.iconst X.here hx (1 : Int32) (hb hby at_212) rfl ?_
                  refine S.iaddV X.here hx (8 : Int32) (hb hby at_213) rfl ?_
                  refine S.istore X.here hx (hb hby at_214) #[.val (.int p0), .val (.long p1), .second, .val (.int (p0 &&& (3 : Int32))), .val (.int ((((p0.toUInt32 >>> ((2 : Int32) &&& 31).toUInt32).toInt32) &&& (1 : Int32)) + (1 : Int32))), .val (.int ((((p0.toUInt32 >>> ((3 : Int32) &&& 31).toUInt32).toInt32) &&& (1 : Int32)) + (1 : Int32))), .val (.int ((((p0.toUInt32 >>> ((4 : Int32) &&& 31).toUInt32).toInt32) &&& (1 : Int32)) + (1 : Int32))), .val (.ref b11), .val (.int (8 : Int32)), .val (.int (2 : Int32)), .val (.int (5 : Int32)), .unset, .unset, .unset] rfl ?_
                  refine S.aload X.here hx (hb hby at_216) rfl rfl ?_
                  refine S.iload X.here hx (hb hby at_218) rfl ?_
                  exact k)
              have F86 := X0.ext E11
              have F87 := F86.wr W15 (by omega)
              have F88 := F87.wr W21 (by omega)
              have F89 := F88.wr W40 (by omega)
              have F90 := F89.wr W44 (by omega)
              have F91 := F90.wr W50 (by omega)
              have F92 := F91.wr W73 (by omega)
              have F93 := F92.wr W77 (by omega)
              have F94 := F93.wr W83 (by omega)
              obtain ⟨v95, h95, Q95, K95, z95, w95⟩ := w85.callS hx (y := (⟨"com/example/bylaw/bylaw/TreePathParentPinLaw", "str", "([CI)Ljava/lang/String;"⟩ : MethodName)) (W := 0) (hw _ (List.mem_of_getElem? (i := 24) rfl)) (hw _ (List.mem_of_getElem? (i := 25) rfl)) (hw _ (List.mem_of_getElem? (i := 21) rfl)) (hw _ (List.mem_of_getElem? (i := 26) rfl)) (by decide) ((rmt8 l Z a0 hw b11 k11 (own_ch p1 (0 : Int32)) (own_ch p1 (1 : Int32)) (47 : Int32) (own_ch p1 (2 : Int32)) (own_ch p1 (3 : Int32)) (47 : Int32) (own_ch p1 (4 : Int32)) (own_ch p1 (5 : Int32)) h83 n0 (by omega) hG F94 U83 (own_ch_ok _ _).1 (own_ch_ok _ _).1 (by decide) (own_ch_ok _ _).1 (own_ch_ok _ _).1 (by decide) (own_ch_ok _ _).1 (own_ch_ok _ _).1).pay w85.hZ (hw _ (List.mem_of_getElem? (i := 26) rfl)) (hw _ (List.mem_of_getElem? (i := 21) rfl)) (by decide) (by decide)) rfl (by rw [hml]; rfl) [] (lenOf pd_17 rfl) rfl (by show 2 * 0 + _ ≤ _; exact Nat.le_of_eq rfl) (hb hby at_220) (by decide) (by decide) (fun _ q => nomatch q) (fun rv => (mkF m 223 #[.val (.int p0), .val (.long p1), .second, .val (.int (p0 &&& (3 : Int32))), .val (.int ((((p0.toUInt32 >>> ((2 : Int32) &&& 31).toUInt32).toInt32) &&& (1 : Int32)) + (1 : Int32))), .val (.int ((((p0.toUInt32 >>> ((3 : Int32) &&& 31).toUInt32).toInt32) &&& (1 : Int32)) + (1 : Int32))), .val (.int ((((p0.toUInt32 >>> ((4 : Int32) &&& 31).toUInt32).toInt32) &&& (1 : Int32)) + (1 : Int32))), .val (.ref b11), .val (.int (8 : Int32)), .val (.int (2 : Int32)), .val (.int (5 : Int32)), .unset, .unset, .unset] (rv.toList ++ []))) (fun _ => rfl)
              obtain ⟨x95, rfl, gx95, S95⟩ := Q95
              have K96 : Keep h0 h95 [] := K84.trans K95 (fun _ q => nomatch q)
              have lt_x95 := S95.lt
              have w97 := w95.pure (mkF m 258 #[.val (.int p0), .val (.long p1), .second, .val (.int (p0 &&& (3 : Int32))), .val (.int ((((p0.toUInt32 >>> ((2 : Int32) &&& 31).toUInt32).toInt32) &&& (1 : Int32)) + (1 : Int32))), .val (.int ((((p0.toUInt32 >>> ((3 : Int32) &&& 31).toUInt32).toInt32) &&& (1 : Int32)) + (1 : Int32))), .val (.int ((((p0.toUInt32 >>> ((4 : Int32) &&& 31).toUInt32).toInt32) &&& (1 : Int32)) + (1 : Int32))), .val (.ref b11), .val (.int (8 : Int32)), .val (.int (2 : Int32)), .val (.int (5 : Int32)), .val (.ref x95), .unset, .unset] [(.int (5 : Int32)), (.ref b11)]) (fun X eT hZ hown k => by
                  show Steps _ _ _ (State.setTop _ (mkF m 223 #[.val (.int p0), .val (.long p1), .second, .val (.int (p0 &&& (3 : Int32))), .val (.int ((((p0.toUInt32 >>> ((2 : Int32) &&& 31).toUInt32).toInt32) &&& (1 : Int32)) + (1 : Int32))), .val (.int ((((p0.toUInt32 >>> ((3 : Int32) &&& 31).toUInt32).toInt32) &&& (1 : Int32)) + (1 : Int32))), .val (.int ((((p0.toUInt32 >>> ((4 : Int32) &&& 31).toUInt32).toInt32) &&& (1 : Int32)) + (1 : Int32))), .val (.ref b11), .val (.int (8 : Int32)), .val (.int (2 : Int32)), .val (.int (5 : Int32)), .unset, .unset, .unset] [(.ref x95)])) _
                  refine S.astore X.here hx (hb hby at_223) rfl #[.val (.int p0), .val (.long p1), .second, .val (.int (p0 &&& (3 : Int32))), .val (.int ((((p0.toUInt32 >>> ((2 : Int32) &&& 31).toUInt32).toInt32) &&& (1 : Int32)) + (1 : Int32))), .val (.int ((((p0.toUInt32 >>> ((3 : Int32) &&& 31).toUInt32).toInt32) &&& (1 : Int32)) + (1 : Int32))), .val (.int ((((p0.toUInt32 >>> ((4 : Int32) &&& 31).toUInt32).toInt32) &&& (1 : Int32)) + (1 : Int32))), .val (.ref b11), .val (.int (8 : Int32)), .val (.int (2 : Int32)), .val (.int (5 : Int32)), .val (.ref x95), .unset, .unset] rfl ?_
                  refine S.iloadN X.here hx (hb hby at_225) rfl ?_
                  refine S.iconst X.here hx (1 : Int32) (hb hby at_226) rfl ?_
                  refine S.icmpYes X.here hx 237 (hb hby at_227) (feq (own_sh.2.2.1 hc24)).2 (by decide) (by decide) ?_
                  refine S.iloadN X.here hx (hb hby at_237) rfl ?_
                  refine S.iconst X.here hx (2 : Int32) (hb hby at_238) rfl ?_
                  refine S.icmpYes X.here hx 254 (hb hby at_239) (feq (own_sh.2.2.2.2 hc53)).2 (by decide) (by decide) ?_
                  refine S.aload X.here hx (hb hby at_254) rfl rfl ?_
                  refine S.iload X.here hx (hb hby at_256) rfl ?_
                  exact k)
              have F98 := F94.keep K95 all0
              have F99 := U83.keep K95 nin0
              obtain ⟨v100, h100, Q100, K100, z100, w100⟩ := w97.callS hx (y := (⟨"com/example/bylaw/bylaw/TreePathParentPinLaw", "str", "([CI)Ljava/lang/String;"⟩ : MethodName)) (W := 0) (hw _ (List.mem_of_getElem? (i := 24) rfl)) (hw _ (List.mem_of_getElem? (i := 25) rfl)) (hw _ (List.mem_of_getElem? (i := 21) rfl)) (hw _ (List.mem_of_getElem? (i := 26) rfl)) (by decide) ((rmt5 l Z a0 hw b11 k11 (own_ch p1 (0 : Int32)) (own_ch p1 (1 : Int32)) (47 : Int32) (own_ch p1 (2 : Int32)) (own_ch p1 (3 : Int32)) (47 : Int32) (own_ch p1 (4 : Int32)) (own_ch p1 (5 : Int32)) h95 n0 (by omega) hG F98 F99 (own_ch_ok _ _).1 (own_ch_ok _ _).1 (by decide) (own_ch_ok _ _).1 (own_ch_ok _ _).1 (by decide) (own_ch_ok _ _).1 (own_ch_ok _ _).1).pay w97.hZ (hw _ (List.mem_of_getElem? (i := 26) rfl)) (hw _ (List.mem_of_getElem? (i := 21) rfl)) (by decide) (by decide)) rfl (by rw [hml]; rfl) [] (lenOf pd_17 rfl) rfl (by show 2 * 0 + _ ≤ _; exact Nat.le_of_eq rfl) (hb hby at_258) (by decide) (by decide) (fun _ q => nomatch q) (fun rv => (mkF m 261 #[.val (.int p0), .val (.long p1), .second, .val (.int (p0 &&& (3 : Int32))), .val (.int ((((p0.toUInt32 >>> ((2 : Int32) &&& 31).toUInt32).toInt32) &&& (1 : Int32)) + (1 : Int32))), .val (.int ((((p0.toUInt32 >>> ((3 : Int32) &&& 31).toUInt32).toInt32) &&& (1 : Int32)) + (1 : Int32))), .val (.int ((((p0.toUInt32 >>> ((4 : Int32) &&& 31).toUInt32).toInt32) &&& (1 : Int32)) + (1 : Int32))), .val (.ref b11), .val (.int (8 : Int32)), .val (.int (2 : Int32)), .val (.int (5 : Int32)), .val (.ref x95), .unset, .unset] (rv.toList ++ []))) (fun _ => rfl)
              obtain ⟨x100, rfl, gx100, S100⟩ := Q100
              have K101 : Keep h0 h100 [] := K96.trans K100 (fun _ q => nomatch q)
              have lt_x100 := S100.lt
              have w102 := w100.pure (mkF m 263 #[.val (.int p0), .val (.long p1), .second, .val (.int (p0 &&& (3 : Int32))), .val (.int ((((p0.toUInt32 >>> ((2 : Int32) &&& 31).toUInt32).toInt32) &&& (1 : Int32)) + (1 : Int32))), .val (.int ((((p0.toUInt32 >>> ((3 : Int32) &&& 31).toUInt32).toInt32) &&& (1 : Int32)) + (1 : Int32))), .val (.int ((((p0.toUInt32 >>> ((4 : Int32) &&& 31).toUInt32).toInt32) &&& (1 : Int32)) + (1 : Int32))), .val (.ref b11), .val (.int (8 : Int32)), .val (.int (2 : Int32)), .val (.int (5 : Int32)), .val (.ref x95), .val (.ref x100), .unset] []) (fun X eT hZ hown k => by
                  show Steps _ _ _ (State.setTop _ (mkF m 261 #[.val (.int p0), .val (.long p1), .second, .val (.int (p0 &&& (3 : Int32))), .val (.int ((((p0.toUInt32 >>> ((2 : Int32) &&& 31).toUInt32).toInt32) &&& (1 : Int32)) + (1 : Int32))), .val (.int ((((p0.toUInt32 >>> ((3 : Int32) &&& 31).toUInt32).toInt32) &&& (1 : Int32)) + (1 : Int32))), .val (.int ((((p0.toUInt32 >>> ((4 : Int32) &&& 31).toUInt32).toInt32) &&& (1 : Int32)) + (1 : Int32))), .val (.ref b11), .val (.int (8 : Int32)), .val (.int (2 : Int32)), .val (.int (5 : Int32)), .val (.ref x95), .unset, .unset] [(.ref x100)])) _
                  refine S.astore X.here hx (hb hby at_261) rfl #[.val (.int p0), .val (.long p1), .second, .val (.int (p0 &&& (3 : Int32))), .val (.int ((((p0.toUInt32 >>> ((2 : Int32) &&& 31).toUInt32).toInt32) &&& (1 : Int32)) + (1 : Int32))), .val (.int ((((p0.toUInt32 >>> ((3 : Int32) &&& 31).toUInt32).toInt32) &&& (1 : Int32)) + (1 : Int32))), .val (.int ((((p0.toUInt32 >>> ((4 : Int32) &&& 31).toUInt32).toInt32) &&& (1 : Int32)) + (1 : Int32))), .val (.ref b11), .val (.int (8 : Int32)), .val (.int (2 : Int32)), .val (.int (5 : Int32)), .val (.ref x95), .val (.ref x100), .unset] rfl ?_
                  exact k)
              have pp103 := own_pp_ccsccscc (own_ch p1 (0 : Int32)) (own_ch p1 (1 : Int32)) (own_ch p1 (2 : Int32)) (own_ch p1 (3 : Int32)) (own_ch p1 (4 : Int32)) (own_ch p1 (5 : Int32)) (own_ch_ok _ _).2 (own_ch_ok _ _).2 (own_ch_ok _ _).2 (own_ch_ok _ _).2 (own_ch_ok _ _).2 (own_ch_ok _ _).2
              have F104 := F98.keep K100 all0
              have F105 := S95.keep K100 all0
              exact ptT l Z a0 hw hE Bd hml p0 (p0 &&& (3 : Int32)) ((((p0.toUInt32 >>> ((2 : Int32) &&& 31).toUInt32).toInt32) &&& (1 : Int32)) + (1 : Int32)) ((((p0.toUInt32 >>> ((3 : Int32) &&& 31).toUInt32).toInt32) &&& (1 : Int32)) + (1 : Int32)) ((((p0.toUInt32 >>> ((4 : Int32) &&& 31).toUInt32).toInt32) &&& (1 : Int32)) + (1 : Int32)) (8 : Int32) (2 : Int32) (5 : Int32) p1 b11 x95 x100 [(own_ch p1 (0 : Int32)), (own_ch p1 (1 : Int32)), (47 : Int32), (own_ch p1 (2 : Int32)), (own_ch p1 (3 : Int32)), (47 : Int32), (own_ch p1 (4 : Int32)), (own_ch p1 (5 : Int32))] [(own_ch p1 (0 : Int32)), (own_ch p1 (1 : Int32)), (47 : Int32), (own_ch p1 (2 : Int32)), (own_ch p1 (3 : Int32))] h0 n0 Z0 (w102.more (k := 16) (n := 160) (by decide) (by decide)) K101 (by omega) hG F104 (F105.more (by omega)) (S100.more (by omega)) pp103.1 pp103.2.1 pp103.2.2.1 pp103.2.2.2
            · have w106 := w79.pure (mkF m 220 #[.val (.int p0), .val (.long p1), .second, .val (.int (p0 &&& (3 : Int32))), .val (.int ((((p0.toUInt32 >>> ((2 : Int32) &&& 31).toUInt32).toInt32) &&& (1 : Int32)) + (1 : Int32))), .val (.int ((((p0.toUInt32 >>> ((3 : Int32) &&& 31).toUInt32).toInt32) &&& (1 : Int32)) + (1 : Int32))), .val (.int ((((p0.toUInt32 >>> ((4 : Int32) &&& 31).toUInt32).toInt32) &&& (1 : Int32)) + (1 : Int32))), .val (.ref b11), .val (.int (7 : Int32)), .val (.int (2 : Int32)), .val (.int (5 : Int32)), .unset, .unset, .unset] [(.int (7 : Int32)), (.ref b11)]) (fun X eT hZ hown k => by
                  show Steps _ _ _ (State.setTop _ (mkF m 197 #[.val (.int p0), .val (.long p1), .second, .val (.int (p0 &&& (3 : Int32))), .val (.int ((((p0.toUInt32 >>> ((2 : Int32) &&& 31).toUInt32).toInt32) &&& (1 : Int32)) + (1 : Int32))), .val (.int ((((p0.toUInt32 >>> ((3 : Int32) &&& 31).toUInt32).toInt32) &&& (1 : Int32)) + (1 : Int32))), .val (.int ((((p0.toUInt32 >>> ((4 : Int32) &&& 31).toUInt32).toInt32) &&& (1 : Int32)) + (1 : Int32))), .val (.ref b11), .val (.int (7 : Int32)), .val (.int (2 : Int32)), .val (.int (5 : Int32)), .unset, .unset, .unset] [(.int (2 : Int32)), (.int ((((p0.toUInt32 >>> ((4 : Int32) &&& 31).toUInt32).toInt32) &&& (1 : Int32)) + (1 : Int32)))])) _
                  refine S.icmpYes X.here hx 216 (hb hby at_197) (feq hc80).2 (by decide) (by decide) ?_
                  refine S.aload X.here hx (hb hby at_216) rfl rfl ?_
                  refine S.iload X.here hx (hb hby at_218) rfl ?_
                  exact k)
              have F107 := X0.ext E11
              have F108 := F107.wr W15 (by omega)
              have F109 := F108.wr W21 (by omega)
              have F110 := F109.wr W40 (by omega)
              have F111 := F110.wr W44 (by omega)
              have F112 := F111.wr W50 (by omega)
              have F113 := F112.wr W73 (by omega)
              have F114 := F113.wr W77 (by omega)
              obtain ⟨v115, h115, Q115, K115, z115, w115⟩ := w106.callS hx (y := (⟨"com/example/bylaw/bylaw/TreePathParentPinLaw", "str", "([CI)Ljava/lang/String;"⟩ : MethodName)) (W := 0) (hw _ (List.mem_of_getElem? (i := 24) rfl)) (hw _ (List.mem_of_getElem? (i := 25) rfl)) (hw _ (List.mem_of_getElem? (i := 21) rfl)) (hw _ (List.mem_of_getElem? (i := 26) rfl)) (by decide) ((rmt7 l Z a0 hw b11 k11 (own_ch p1 (0 : Int32)) (own_ch p1 (1 : Int32)) (47 : Int32) (own_ch p1 (2 : Int32)) (own_ch p1 (3 : Int32)) (47 : Int32) (own_ch p1 (4 : Int32)) (0 : Int32) h77 n0 (by omega) hG F114 U77 (own_ch_ok _ _).1 (own_ch_ok _ _).1 (by decide) (own_ch_ok _ _).1 (own_ch_ok _ _).1 (by decide) (own_ch_ok _ _).1 (by decide)).pay w106.hZ (hw _ (List.mem_of_getElem? (i := 26) rfl)) (hw _ (List.mem_of_getElem? (i := 21) rfl)) (by decide) (by decide)) rfl (by rw [hml]; rfl) [] (lenOf pd_17 rfl) rfl (by show 2 * 0 + _ ≤ _; exact Nat.le_of_eq rfl) (hb hby at_220) (by decide) (by decide) (fun _ q => nomatch q) (fun rv => (mkF m 223 #[.val (.int p0), .val (.long p1), .second, .val (.int (p0 &&& (3 : Int32))), .val (.int ((((p0.toUInt32 >>> ((2 : Int32) &&& 31).toUInt32).toInt32) &&& (1 : Int32)) + (1 : Int32))), .val (.int ((((p0.toUInt32 >>> ((3 : Int32) &&& 31).toUInt32).toInt32) &&& (1 : Int32)) + (1 : Int32))), .val (.int ((((p0.toUInt32 >>> ((4 : Int32) &&& 31).toUInt32).toInt32) &&& (1 : Int32)) + (1 : Int32))), .val (.ref b11), .val (.int (7 : Int32)), .val (.int (2 : Int32)), .val (.int (5 : Int32)), .unset, .unset, .unset] (rv.toList ++ []))) (fun _ => rfl)
              obtain ⟨x115, rfl, gx115, S115⟩ := Q115
              have K116 : Keep h0 h115 [] := K78.trans K115 (fun _ q => nomatch q)
              have lt_x115 := S115.lt
              have w117 := w115.pure (mkF m 258 #[.val (.int p0), .val (.long p1), .second, .val (.int (p0 &&& (3 : Int32))), .val (.int ((((p0.toUInt32 >>> ((2 : Int32) &&& 31).toUInt32).toInt32) &&& (1 : Int32)) + (1 : Int32))), .val (.int ((((p0.toUInt32 >>> ((3 : Int32) &&& 31).toUInt32).toInt32) &&& (1 : Int32)) + (1 : Int32))), .val (.int ((((p0.toUInt32 >>> ((4 : Int32) &&& 31).toUInt32).toInt32) &&& (1 : Int32)) + (1 : Int32))), .val (.ref b11), .val (.int (7 : Int32)), .val (.int (2 : Int32)), .val (.int (5 : Int32)), .val (.ref x115), .unset, .unset] [(.int (5 : Int32)), (.ref b11)]) (fun X eT hZ hown k => by
                  show Steps _ _ _ (State.setTop _ (mkF m 223 #[.val (.int p0), .val (.long p1), .second, .val (.int (p0 &&& (3 : Int32))), .val (.int ((((p0.toUInt32 >>> ((2 : Int32) &&& 31).toUInt32).toInt32) &&& (1 : Int32)) + (1 : Int32))), .val (.int ((((p0.toUInt32 >>> ((3 : Int32) &&& 31).toUInt32).toInt32) &&& (1 : Int32)) + (1 : Int32))), .val (.int ((((p0.toUInt32 >>> ((4 : Int32) &&& 31).toUInt32).toInt32) &&& (1 : Int32)) + (1 : Int32))), .val (.ref b11), .val (.int (7 : Int32)), .val (.int (2 : Int32)), .val (.int (5 : Int32)), .unset, .unset, .unset] [(.ref x115)])) _
                  refine S.astore X.here hx (hb hby at_223) rfl #[.val (.int p0), .val (.long p1), .second, .val (.int (p0 &&& (3 : Int32))), .val (.int ((((p0.toUInt32 >>> ((2 : Int32) &&& 31).toUInt32).toInt32) &&& (1 : Int32)) + (1 : Int32))), .val (.int ((((p0.toUInt32 >>> ((3 : Int32) &&& 31).toUInt32).toInt32) &&& (1 : Int32)) + (1 : Int32))), .val (.int ((((p0.toUInt32 >>> ((4 : Int32) &&& 31).toUInt32).toInt32) &&& (1 : Int32)) + (1 : Int32))), .val (.ref b11), .val (.int (7 : Int32)), .val (.int (2 : Int32)), .val (.int (5 : Int32)), .val (.ref x115), .unset, .unset] rfl ?_
                  refine S.iloadN X.here hx (hb hby at_225) rfl ?_
                  refine S.iconst X.here hx (1 : Int32) (hb hby at_226) rfl ?_
                  refine S.icmpYes X.here hx 237 (hb hby at_227) (feq (own_sh.2.2.1 hc24)).2 (by decide) (by decide) ?_
                  refine S.iloadN X.here hx (hb hby at_237) rfl ?_
                  refine S.iconst X.here hx (2 : Int32) (hb hby at_238) rfl ?_
                  refine S.icmpYes X.here hx 254 (hb hby at_239) (feq (own_sh.2.2.2.2 hc53)).2 (by decide) (by decide) ?_
                  refine S.aload X.here hx (hb hby at_254) rfl rfl ?_
                  refine S.iload X.here hx (hb hby at_256) rfl ?_
                  exact k)
              have F118 := F114.keep K115 all0
              have F119 := U77.keep K115 nin0
              obtain ⟨v120, h120, Q120, K120, z120, w120⟩ := w117.callS hx (y := (⟨"com/example/bylaw/bylaw/TreePathParentPinLaw", "str", "([CI)Ljava/lang/String;"⟩ : MethodName)) (W := 0) (hw _ (List.mem_of_getElem? (i := 24) rfl)) (hw _ (List.mem_of_getElem? (i := 25) rfl)) (hw _ (List.mem_of_getElem? (i := 21) rfl)) (hw _ (List.mem_of_getElem? (i := 26) rfl)) (by decide) ((rmt5 l Z a0 hw b11 k11 (own_ch p1 (0 : Int32)) (own_ch p1 (1 : Int32)) (47 : Int32) (own_ch p1 (2 : Int32)) (own_ch p1 (3 : Int32)) (47 : Int32) (own_ch p1 (4 : Int32)) (0 : Int32) h115 n0 (by omega) hG F118 F119 (own_ch_ok _ _).1 (own_ch_ok _ _).1 (by decide) (own_ch_ok _ _).1 (own_ch_ok _ _).1 (by decide) (own_ch_ok _ _).1 (by decide)).pay w117.hZ (hw _ (List.mem_of_getElem? (i := 26) rfl)) (hw _ (List.mem_of_getElem? (i := 21) rfl)) (by decide) (by decide)) rfl (by rw [hml]; rfl) [] (lenOf pd_17 rfl) rfl (by show 2 * 0 + _ ≤ _; exact Nat.le_of_eq rfl) (hb hby at_258) (by decide) (by decide) (fun _ q => nomatch q) (fun rv => (mkF m 261 #[.val (.int p0), .val (.long p1), .second, .val (.int (p0 &&& (3 : Int32))), .val (.int ((((p0.toUInt32 >>> ((2 : Int32) &&& 31).toUInt32).toInt32) &&& (1 : Int32)) + (1 : Int32))), .val (.int ((((p0.toUInt32 >>> ((3 : Int32) &&& 31).toUInt32).toInt32) &&& (1 : Int32)) + (1 : Int32))), .val (.int ((((p0.toUInt32 >>> ((4 : Int32) &&& 31).toUInt32).toInt32) &&& (1 : Int32)) + (1 : Int32))), .val (.ref b11), .val (.int (7 : Int32)), .val (.int (2 : Int32)), .val (.int (5 : Int32)), .val (.ref x115), .unset, .unset] (rv.toList ++ []))) (fun _ => rfl)
              obtain ⟨x120, rfl, gx120, S120⟩ := Q120
              have K121 : Keep h0 h120 [] := K116.trans K120 (fun _ q => nomatch q)
              have lt_x120 := S120.lt
              have w122 := w120.pure (mkF m 263 #[.val (.int p0), .val (.long p1), .second, .val (.int (p0 &&& (3 : Int32))), .val (.int ((((p0.toUInt32 >>> ((2 : Int32) &&& 31).toUInt32).toInt32) &&& (1 : Int32)) + (1 : Int32))), .val (.int ((((p0.toUInt32 >>> ((3 : Int32) &&& 31).toUInt32).toInt32) &&& (1 : Int32)) + (1 : Int32))), .val (.int ((((p0.toUInt32 >>> ((4 : Int32) &&& 31).toUInt32).toInt32) &&& (1 : Int32)) + (1 : Int32))), .val (.ref b11), .val (.int (7 : Int32)), .val (.int (2 : Int32)), .val (.int (5 : Int32)), .val (.ref x115), .val (.ref x120), .unset] []) (fun X eT hZ hown k => by
                  show Steps _ _ _ (State.setTop _ (mkF m 261 #[.val (.int p0), .val (.long p1), .second, .val (.int (p0 &&& (3 : Int32))), .val (.int ((((p0.toUInt32 >>> ((2 : Int32) &&& 31).toUInt32).toInt32) &&& (1 : Int32)) + (1 : Int32))), .val (.int ((((p0.toUInt32 >>> ((3 : Int32) &&& 31).toUInt32).toInt32) &&& (1 : Int32)) + (1 : Int32))), .val (.int ((((p0.toUInt32 >>> ((4 : Int32) &&& 31).toUInt32).toInt32) &&& (1 : Int32)) + (1 : Int32))), .val (.ref b11), .val (.int (7 : Int32)), .val (.int (2 : Int32)), .val (.int (5 : Int32)), .val (.ref x115), .unset, .unset] [(.ref x120)])) _
                  refine S.astore X.here hx (hb hby at_261) rfl #[.val (.int p0), .val (.long p1), .second, .val (.int (p0 &&& (3 : Int32))), .val (.int ((((p0.toUInt32 >>> ((2 : Int32) &&& 31).toUInt32).toInt32) &&& (1 : Int32)) + (1 : Int32))), .val (.int ((((p0.toUInt32 >>> ((3 : Int32) &&& 31).toUInt32).toInt32) &&& (1 : Int32)) + (1 : Int32))), .val (.int ((((p0.toUInt32 >>> ((4 : Int32) &&& 31).toUInt32).toInt32) &&& (1 : Int32)) + (1 : Int32))), .val (.ref b11), .val (.int (7 : Int32)), .val (.int (2 : Int32)), .val (.int (5 : Int32)), .val (.ref x115), .val (.ref x120), .unset] rfl ?_
                  exact k)
              have pp123 := own_pp_ccsccsc (own_ch p1 (0 : Int32)) (own_ch p1 (1 : Int32)) (own_ch p1 (2 : Int32)) (own_ch p1 (3 : Int32)) (own_ch p1 (4 : Int32)) (own_ch_ok _ _).2 (own_ch_ok _ _).2 (own_ch_ok _ _).2 (own_ch_ok _ _).2 (own_ch_ok _ _).2
              have F124 := F118.keep K120 all0
              have F125 := S115.keep K120 all0
              exact ptT l Z a0 hw hE Bd hml p0 (p0 &&& (3 : Int32)) ((((p0.toUInt32 >>> ((2 : Int32) &&& 31).toUInt32).toInt32) &&& (1 : Int32)) + (1 : Int32)) ((((p0.toUInt32 >>> ((3 : Int32) &&& 31).toUInt32).toInt32) &&& (1 : Int32)) + (1 : Int32)) ((((p0.toUInt32 >>> ((4 : Int32) &&& 31).toUInt32).toInt32) &&& (1 : Int32)) + (1 : Int32)) (7 : Int32) (2 : Int32) (5 : Int32) p1 b11 x115 x120 [(own_ch p1 (0 : Int32)), (own_ch p1 (1 : Int32)), (47 : Int32), (own_ch p1 (2 : Int32)), (own_ch p1 (3 : Int32)), (47 : Int32), (own_ch p1 (4 : Int32))] [(own_ch p1 (0 : Int32)), (own_ch p1 (1 : Int32)), (47 : Int32), (own_ch p1 (2 : Int32)), (own_ch p1 (3 : Int32))] h0 n0 Z0 (w122.more (k := 16) (n := 160) (by decide) (by decide)) K121 (by omega) hG F124 (F125.more (by omega)) (S120.more (by omega)) pp123.1 pp123.2.1 pp123.2.2.1 pp123.2.2.2
        · have w126 := w46.pure (mkF m 162 #[.val (.int p0), .val (.long p1), .second, .val (.int (p0 &&& (3 : Int32))), .val (.int ((((p0.toUInt32 >>> ((2 : Int32) &&& 31).toUInt32).toInt32) &&& (1 : Int32)) + (1 : Int32))), .val (.int ((((p0.toUInt32 >>> ((3 : Int32) &&& 31).toUInt32).toInt32) &&& (1 : Int32)) + (1 : Int32))), .val (.int ((((p0.toUInt32 >>> ((4 : Int32) &&& 31).toUInt32).toInt32) &&& (1 : Int32)) + (1 : Int32))), .val (.ref b11), .val (.int (4 : Int32)), .val (.int (2 : Int32)), .val (.int (4 : Int32)), .unset, .unset, .unset] [(.int (3 : Int32)), (.int (p0 &&& (3 : Int32)))]) (fun X eT hZ hown k => by
              show Steps _ _ _ (State.setTop _ (mkF m 137 #[.val (.int p0), .val (.long p1), .second, .val (.int (p0 &&& (3 : Int32))), .val (.int ((((p0.toUInt32 >>> ((2 : Int32) &&& 31).toUInt32).toInt32) &&& (1 : Int32)) + (1 : Int32))), .val (.int ((((p0.toUInt32 >>> ((3 : Int32) &&& 31).toUInt32).toInt32) &&& (1 : Int32)) + (1 : Int32))), .val (.int ((((p0.toUInt32 >>> ((4 : Int32) &&& 31).toUInt32).toInt32) &&& (1 : Int32)) + (1 : Int32))), .val (.ref b11), .val (.int (4 : Int32)), .val (.int (2 : Int32)), .unset, .unset, .unset, .unset] [(.int (2 : Int32)), (.int ((((p0.toUInt32 >>> ((3 : Int32) &&& 31).toUInt32).toInt32) &&& (1 : Int32)) + (1 : Int32)))])) _
              refine S.icmpYes X.here hx 156 (hb hby at_137) (feq hc47).2 (by decide) (by decide) ?_
              refine S.iload X.here hx (hb hby at_156) rfl ?_
              refine S.istore X.here hx (hb hby at_158) #[.val (.int p0), .val (.long p1), .second, .val (.int (p0 &&& (3 : Int32))), .val (.int ((((p0.toUInt32 >>> ((2 : Int32) &&& 31).toUInt32).toInt32) &&& (1 : Int32)) + (1 : Int32))), .val (.int ((((p0.toUInt32 >>> ((3 : Int32) &&& 31).toUInt32).toInt32) &&& (1 : Int32)) + (1 : Int32))), .val (.int ((((p0.toUInt32 >>> ((4 : Int32) &&& 31).toUInt32).toInt32) &&& (1 : Int32)) + (1 : Int32))), .val (.ref b11), .val (.int (4 : Int32)), .val (.int (2 : Int32)), .val (.int (4 : Int32)), .unset, .unset, .unset] rfl ?_
              refine S.iloadN X.here hx (hb hby at_160) rfl ?_
              refine S.iconst X.here hx (3 : Int32) (hb hby at_161) rfl ?_
              exact k)
          by_cases hc127 : (p0 &&& (3 : Int32)) < (3 : Int32)
          · have w128 := w126.pure (mkF m 220 #[.val (.int p0), .val (.long p1), .second, .val (.int (p0 &&& (3 : Int32))), .val (.int ((((p0.toUInt32 >>> ((2 : Int32) &&& 31).toUInt32).toInt32) &&& (1 : Int32)) + (1 : Int32))), .val (.int ((((p0.toUInt32 >>> ((3 : Int32) &&& 31).toUInt32).toInt32) &&& (1 : Int32)) + (1 : Int32))), .val (.int ((((p0.toUInt32 >>> ((4 : Int32) &&& 31).toUInt32).toInt32) &&& (1 : Int32)) + (1 : Int32))), .val (.ref b11), .val (.int (4 : Int32)), .val (.int (2 : Int32)), .val (.int (4 : Int32)), .unset, .unset, .unset] [(.int (4 : Int32)), (.ref b11)]) (fun X eT hZ hown k => by
                show Steps _ _ _ (State.setTop _ (mkF m 162 #[.val (.int p0), .val (.long p1), .second, .val (.int (p0 &&& (3 : Int32))), .val (.int ((((p0.toUInt32 >>> ((2 : Int32) &&& 31).toUInt32).toInt32) &&& (1 : Int32)) + (1 : Int32))), .val (.int ((((p0.toUInt32 >>> ((3 : Int32) &&& 31).toUInt32).toInt32) &&& (1 : Int32)) + (1 : Int32))), .val (.int ((((p0.toUInt32 >>> ((4 : Int32) &&& 31).toUInt32).toInt32) &&& (1 : Int32)) + (1 : Int32))), .val (.ref b11), .val (.int (4 : Int32)), .val (.int (2 : Int32)), .val (.int (4 : Int32)), .unset, .unset, .unset] [(.int (3 : Int32)), (.int (p0 &&& (3 : Int32)))])) _
                refine S.icmpYes X.here hx 216 (hb hby at_162) (tlt hc127).1 (by decide) (by decide) ?_
                refine S.aload X.here hx (hb hby at_216) rfl rfl ?_
                refine S.iload X.here hx (hb hby at_218) rfl ?_
                exact k)
            have F129 := X0.ext E11
            have F130 := F129.wr W15 (by omega)
            have F131 := F130.wr W21 (by omega)
            have F132 := F131.wr W40 (by omega)
            have F133 := F132.wr W44 (by omega)
            obtain ⟨v134, h134, Q134, K134, z134, w134⟩ := w128.callS hx (y := (⟨"com/example/bylaw/bylaw/TreePathParentPinLaw", "str", "([CI)Ljava/lang/String;"⟩ : MethodName)) (W := 0) (hw _ (List.mem_of_getElem? (i := 24) rfl)) (hw _ (List.mem_of_getElem? (i := 25) rfl)) (hw _ (List.mem_of_getElem? (i := 21) rfl)) (hw _ (List.mem_of_getElem? (i := 26) rfl)) (by decide) ((rmt4 l Z a0 hw b11 k11 (own_ch p1 (0 : Int32)) (own_ch p1 (1 : Int32)) (47 : Int32) (own_ch p1 (2 : Int32)) (0 : Int32) (0 : Int32) (0 : Int32) (0 : Int32) h44 n0 (by omega) hG F133 U44 (own_ch_ok _ _).1 (own_ch_ok _ _).1 (by decide) (own_ch_ok _ _).1 (by decide) (by decide) (by decide) (by decide)).pay w128.hZ (hw _ (List.mem_of_getElem? (i := 26) rfl)) (hw _ (List.mem_of_getElem? (i := 21) rfl)) (by decide) (by decide)) rfl (by rw [hml]; rfl) [] (lenOf pd_17 rfl) rfl (by show 2 * 0 + _ ≤ _; exact Nat.le_of_eq rfl) (hb hby at_220) (by decide) (by decide) (fun _ q => nomatch q) (fun rv => (mkF m 223 #[.val (.int p0), .val (.long p1), .second, .val (.int (p0 &&& (3 : Int32))), .val (.int ((((p0.toUInt32 >>> ((2 : Int32) &&& 31).toUInt32).toInt32) &&& (1 : Int32)) + (1 : Int32))), .val (.int ((((p0.toUInt32 >>> ((3 : Int32) &&& 31).toUInt32).toInt32) &&& (1 : Int32)) + (1 : Int32))), .val (.int ((((p0.toUInt32 >>> ((4 : Int32) &&& 31).toUInt32).toInt32) &&& (1 : Int32)) + (1 : Int32))), .val (.ref b11), .val (.int (4 : Int32)), .val (.int (2 : Int32)), .val (.int (4 : Int32)), .unset, .unset, .unset] (rv.toList ++ []))) (fun _ => rfl)
            obtain ⟨x134, rfl, gx134, S134⟩ := Q134
            have K135 : Keep h0 h134 [] := K45.trans K134 (fun _ q => nomatch q)
            have lt_x134 := S134.lt
            have w136 := w134.pure (mkF m 246 #[.val (.int p0), .val (.long p1), .second, .val (.int (p0 &&& (3 : Int32))), .val (.int ((((p0.toUInt32 >>> ((2 : Int32) &&& 31).toUInt32).toInt32) &&& (1 : Int32)) + (1 : Int32))), .val (.int ((((p0.toUInt32 >>> ((3 : Int32) &&& 31).toUInt32).toInt32) &&& (1 : Int32)) + (1 : Int32))), .val (.int ((((p0.toUInt32 >>> ((4 : Int32) &&& 31).toUInt32).toInt32) &&& (1 : Int32)) + (1 : Int32))), .val (.ref b11), .val (.int (4 : Int32)), .val (.int (2 : Int32)), .val (.int (4 : Int32)), .val (.ref x134), .unset, .unset] [(.int (2 : Int32)), (.ref b11)]) (fun X eT hZ hown k => by
                show Steps _ _ _ (State.setTop _ (mkF m 223 #[.val (.int p0), .val (.long p1), .second, .val (.int (p0 &&& (3 : Int32))), .val (.int ((((p0.toUInt32 >>> ((2 : Int32) &&& 31).toUInt32).toInt32) &&& (1 : Int32)) + (1 : Int32))), .val (.int ((((p0.toUInt32 >>> ((3 : Int32) &&& 31).toUInt32).toInt32) &&& (1 : Int32)) + (1 : Int32))), .val (.int ((((p0.toUInt32 >>> ((4 : Int32) &&& 31).toUInt32).toInt32) &&& (1 : Int32)) + (1 : Int32))), .val (.ref b11), .val (.int (4 : Int32)), .val (.int (2 : Int32)), .val (.int (4 : Int32)), .unset, .unset, .unset] [(.ref x134)])) _
                refine S.astore X.here hx (hb hby at_223) rfl #[.val (.int p0), .val (.long p1), .second, .val (.int (p0 &&& (3 : Int32))), .val (.int ((((p0.toUInt32 >>> ((2 : Int32) &&& 31).toUInt32).toInt32) &&& (1 : Int32)) + (1 : Int32))), .val (.int ((((p0.toUInt32 >>> ((3 : Int32) &&& 31).toUInt32).toInt32) &&& (1 : Int32)) + (1 : Int32))), .val (.int ((((p0.toUInt32 >>> ((4 : Int32) &&& 31).toUInt32).toInt32) &&& (1 : Int32)) + (1 : Int32))), .val (.ref b11), .val (.int (4 : Int32)), .val (.int (2 : Int32)), .val (.int (4 : Int32)), .val (.ref x134), .unset, .unset] rfl ?_
                refine S.iloadN X.here hx (hb hby at_225) rfl ?_
                refine S.iconst X.here hx (1 : Int32) (hb hby at_226) rfl ?_
                refine S.icmpYes X.here hx 237 (hb hby at_227) (feq (own_sh.2.2.1 hc24)).2 (by decide) (by decide) ?_
                refine S.iloadN X.here hx (hb hby at_237) rfl ?_
                refine S.iconst X.here hx (2 : Int32) (hb hby at_238) rfl ?_
                refine S.icmpNo X.here hx (hb hby at_239) (teq (own_sh.2.2.2.1 hc24 hc127)).2 ?_
                refine S.aload X.here hx (hb hby at_242) rfl rfl ?_
                refine S.iload X.here hx (hb hby at_244) rfl ?_
                exact k)
            have F137 := F133.keep K134 all0
            have F138 := U44.keep K134 nin0
            obtain ⟨v139, h139, Q139, K139, z139, w139⟩ := w136.callS hx (y := (⟨"com/example/bylaw/bylaw/TreePathParentPinLaw", "str", "([CI)Ljava/lang/String;"⟩ : MethodName)) (W := 0) (hw _ (List.mem_of_getElem? (i := 24) rfl)) (hw _ (List.mem_of_getElem? (i := 25) rfl)) (hw _ (List.mem_of_getElem? (i := 21) rfl)) (hw _ (List.mem_of_getElem? (i := 26) rfl)) (by decide) ((rmt2 l Z a0 hw b11 k11 (own_ch p1 (0 : Int32)) (own_ch p1 (1 : Int32)) (47 : Int32) (own_ch p1 (2 : Int32)) (0 : Int32) (0 : Int32) (0 : Int32) (0 : Int32) h134 n0 (by omega) hG F137 F138 (own_ch_ok _ _).1 (own_ch_ok _ _).1 (by decide) (own_ch_ok _ _).1 (by decide) (by decide) (by decide) (by decide)).pay w136.hZ (hw _ (List.mem_of_getElem? (i := 26) rfl)) (hw _ (List.mem_of_getElem? (i := 21) rfl)) (by decide) (by decide)) rfl (by rw [hml]; rfl) [] (lenOf pd_17 rfl) rfl (by show 2 * 0 + _ ≤ _; exact Nat.le_of_eq rfl) (hb hby at_246) (by decide) (by decide) (fun _ q => nomatch q) (fun rv => (mkF m 249 #[.val (.int p0), .val (.long p1), .second, .val (.int (p0 &&& (3 : Int32))), .val (.int ((((p0.toUInt32 >>> ((2 : Int32) &&& 31).toUInt32).toInt32) &&& (1 : Int32)) + (1 : Int32))), .val (.int ((((p0.toUInt32 >>> ((3 : Int32) &&& 31).toUInt32).toInt32) &&& (1 : Int32)) + (1 : Int32))), .val (.int ((((p0.toUInt32 >>> ((4 : Int32) &&& 31).toUInt32).toInt32) &&& (1 : Int32)) + (1 : Int32))), .val (.ref b11), .val (.int (4 : Int32)), .val (.int (2 : Int32)), .val (.int (4 : Int32)), .val (.ref x134), .unset, .unset] (rv.toList ++ []))) (fun _ => rfl)
            obtain ⟨x139, rfl, gx139, S139⟩ := Q139
            have K140 : Keep h0 h139 [] := K135.trans K139 (fun _ q => nomatch q)
            have lt_x139 := S139.lt
            have w141 := w139.pure (mkF m 263 #[.val (.int p0), .val (.long p1), .second, .val (.int (p0 &&& (3 : Int32))), .val (.int ((((p0.toUInt32 >>> ((2 : Int32) &&& 31).toUInt32).toInt32) &&& (1 : Int32)) + (1 : Int32))), .val (.int ((((p0.toUInt32 >>> ((3 : Int32) &&& 31).toUInt32).toInt32) &&& (1 : Int32)) + (1 : Int32))), .val (.int ((((p0.toUInt32 >>> ((4 : Int32) &&& 31).toUInt32).toInt32) &&& (1 : Int32)) + (1 : Int32))), .val (.ref b11), .val (.int (4 : Int32)), .val (.int (2 : Int32)), .val (.int (4 : Int32)), .val (.ref x134), .val (.ref x139), .unset] []) (fun X eT hZ hown k => by
                show Steps _ _ _ (State.setTop _ (mkF m 249 #[.val (.int p0), .val (.long p1), .second, .val (.int (p0 &&& (3 : Int32))), .val (.int ((((p0.toUInt32 >>> ((2 : Int32) &&& 31).toUInt32).toInt32) &&& (1 : Int32)) + (1 : Int32))), .val (.int ((((p0.toUInt32 >>> ((3 : Int32) &&& 31).toUInt32).toInt32) &&& (1 : Int32)) + (1 : Int32))), .val (.int ((((p0.toUInt32 >>> ((4 : Int32) &&& 31).toUInt32).toInt32) &&& (1 : Int32)) + (1 : Int32))), .val (.ref b11), .val (.int (4 : Int32)), .val (.int (2 : Int32)), .val (.int (4 : Int32)), .val (.ref x134), .unset, .unset] [(.ref x139)])) _
                refine S.astore X.here hx (hb hby at_249) rfl #[.val (.int p0), .val (.long p1), .second, .val (.int (p0 &&& (3 : Int32))), .val (.int ((((p0.toUInt32 >>> ((2 : Int32) &&& 31).toUInt32).toInt32) &&& (1 : Int32)) + (1 : Int32))), .val (.int ((((p0.toUInt32 >>> ((3 : Int32) &&& 31).toUInt32).toInt32) &&& (1 : Int32)) + (1 : Int32))), .val (.int ((((p0.toUInt32 >>> ((4 : Int32) &&& 31).toUInt32).toInt32) &&& (1 : Int32)) + (1 : Int32))), .val (.ref b11), .val (.int (4 : Int32)), .val (.int (2 : Int32)), .val (.int (4 : Int32)), .val (.ref x134), .val (.ref x139), .unset] rfl ?_
                refine S.goto X.here hx 263 (hb hby at_251) (by decide) (by decide) ?_
                exact k)
            have pp142 := own_pp_ccsc (own_ch p1 (0 : Int32)) (own_ch p1 (1 : Int32)) (own_ch p1 (2 : Int32)) (own_ch_ok _ _).2 (own_ch_ok _ _).2 (own_ch_ok _ _).2
            have F143 := F137.keep K139 all0
            have F144 := S134.keep K139 all0
            exact ptT l Z a0 hw hE Bd hml p0 (p0 &&& (3 : Int32)) ((((p0.toUInt32 >>> ((2 : Int32) &&& 31).toUInt32).toInt32) &&& (1 : Int32)) + (1 : Int32)) ((((p0.toUInt32 >>> ((3 : Int32) &&& 31).toUInt32).toInt32) &&& (1 : Int32)) + (1 : Int32)) ((((p0.toUInt32 >>> ((4 : Int32) &&& 31).toUInt32).toInt32) &&& (1 : Int32)) + (1 : Int32)) (4 : Int32) (2 : Int32) (4 : Int32) p1 b11 x134 x139 [(own_ch p1 (0 : Int32)), (own_ch p1 (1 : Int32)), (47 : Int32), (own_ch p1 (2 : Int32))] [(own_ch p1 (0 : Int32)), (own_ch p1 (1 : Int32))] h0 n0 Z0 (w141.more (k := 16) (n := 160) (by decide) (by decide)) K140 (by omega) hG F143 (F144.more (by omega)) (S139.more (by omega)) pp142.1 pp142.2.1 pp142.2.2.1 pp142.2.2.2
          · have w145 := w126.pure (mkF m 171 #[.val (.int p0), .val (.long p1), .second, .val (.int (p0 &&& (3 : Int32))), .val (.int ((((p0.toUInt32 >>> ((2 : Int32) &&& 31).toUInt32).toInt32) &&& (1 : Int32)) + (1 : Int32))), .val (.int ((((p0.toUInt32 >>> ((3 : Int32) &&& 31).toUInt32).toInt32) &&& (1 : Int32)) + (1 : Int32))), .val (.int ((((p0.toUInt32 >>> ((4 : Int32) &&& 31).toUInt32).toInt32) &&& (1 : Int32)) + (1 : Int32))), .val (.ref b11), .val (.int (4 : Int32)), .val (.int (2 : Int32)), .val (.int (4 : Int32)), .unset, .unset, .unset] [(.int (47 : Int32)), (.int (4 : Int32)), (.ref b11)]) (fun X eT hZ hown k => by
                show Steps _ _ _ (State.setTop _ (mkF m 162 #[.val (.int p0), .val (.long p1), .second, .val (.int (p0 &&& (3 : Int32))), .val (.int ((((p0.toUInt32 >>> ((2 : Int32) &&& 31).toUInt32).toInt32) &&& (1 : Int32)) + (1 : Int32))), .val (.int ((((p0.toUInt32 >>> ((3 : Int32) &&& 31).toUInt32).toInt32) &&& (1 : Int32)) + (1 : Int32))), .val (.int ((((p0.toUInt32 >>> ((4 : Int32) &&& 31).toUInt32).toInt32) &&& (1 : Int32)) + (1 : Int32))), .val (.ref b11), .val (.int (4 : Int32)), .val (.int (2 : Int32)), .val (.int (4 : Int32)), .unset, .unset, .unset] [(.int (3 : Int32)), (.int (p0 &&& (3 : Int32)))])) _
                refine S.icmpNo X.here hx (hb hby at_162) (flt hc127).1 ?_
                refine S.aload X.here hx (hb hby at_165) rfl rfl ?_
                refine S.iload X.here hx (hb hby at_167) rfl ?_
                refine S.bipush X.here hx (47 : Int32) (hb hby at_169) rfl ?_
                exact k)
            obtain ⟨h146, W146, z146, V146, w146⟩ := w145.stC hx U44 4 rfl (Nat.le_of_ble_eq_true rfl) ⟨by decide, by decide⟩ rfl rfl (hb hby at_171) (by omega) (mkF m 172 #[.val (.int p0), .val (.long p1), .second, .val (.int (p0 &&& (3 : Int32))), .val (.int ((((p0.toUInt32 >>> ((2 : Int32) &&& 31).toUInt32).toInt32) &&& (1 : Int32)) + (1 : Int32))), .val (.int ((((p0.toUInt32 >>> ((3 : Int32) &&& 31).toUInt32).toInt32) &&& (1 : Int32)) + (1 : Int32))), .val (.int ((((p0.toUInt32 >>> ((4 : Int32) &&& 31).toUInt32).toInt32) &&& (1 : Int32)) + (1 : Int32))), .val (.ref b11), .val (.int (4 : Int32)), .val (.int (2 : Int32)), .val (.int (4 : Int32)), .unset, .unset, .unset] []) rfl
            rw [show nar .char (47 : Int32) = (47 : Int32) from rfl] at V146
            have U146 : Arv Z h146 b11 k11 .char (8 : Int32) [(.int (own_ch p1 (0 : Int32))), (.int (own_ch p1 (1 : Int32))), (.int (47 : Int32)), (.int (own_ch p1 (2 : Int32))), (.int (47 : Int32)), (.int (0 : Int32)), (.int (0 : Int32)), (.int (0 : Int32))] (.int (0 : Int32)) := V146
            have K147 : Keep h0 h146 [] := K45.wr W146 (Or.inr (by omega))
            have w148 := w146.pure (mkF m 184 #[.val (.int p0), .val (.long p1), .second, .val (.int (p0 &&& (3 : Int32))), .val (.int ((((p0.toUInt32 >>> ((2 : Int32) &&& 31).toUInt32).toInt32) &&& (1 : Int32)) + (1 : Int32))), .val (.int ((((p0.toUInt32 >>> ((3 : Int32) &&& 31).toUInt32).toInt32) &&& (1 : Int32)) + (1 : Int32))), .val (.int ((((p0.toUInt32 >>> ((4 : Int32) &&& 31).toUInt32).toInt32) &&& (1 : Int32)) + (1 : Int32))), .val (.ref b11), .val (.int (5 : Int32)), .val (.int (2 : Int32)), .val (.int (4 : Int32)), .unset, .unset, .unset] [(.int (4 : Int32)), (.long p1), (.int (5 : Int32)), (.ref b11)]) (fun X eT hZ hown k => by
                show Steps _ _ _ (State.setTop _ (mkF m 172 #[.val (.int p0), .val (.long p1), .second, .val (.int (p0 &&& (3 : Int32))), .val (.int ((((p0.toUInt32 >>> ((2 : Int32) &&& 31).toUInt32).toInt32) &&& (1 : Int32)) + (1 : Int32))), .val (.int ((((p0.toUInt32 >>> ((3 : Int32) &&& 31).toUInt32).toInt32) &&& (1 : Int32)) + (1 : Int32))), .val (.int ((((p0.toUInt32 >>> ((4 : Int32) &&& 31).toUInt32).toInt32) &&& (1 : Int32)) + (1 : Int32))), .val (.ref b11), .val (.int (4 : Int32)), .val (.int (2 : Int32)), .val (.int (4 : Int32)), .unset, .unset, .unset] [])) _
                refine S.iload X.here hx (hb hby at_172) rfl ?_
                refine S.iconst X.here hx (1 : Int32) (hb hby at_174) rfl ?_
                refine S.iaddV X.here hx (5 : Int32) (hb hby at_175) rfl ?_
                refine S.istore X.here hx (hb hby at_176) #[.val (.int p0), .val (.long p1), .second, .val (.int (p0 &&& (3 : Int32))), .val (.int ((((p0.toUInt32 >>> ((2 : Int32) &&& 31).toUInt32).toInt32) &&& (1 : Int32)) + (1 : Int32))), .val (.int ((((p0.toUInt32 >>> ((3 : Int32) &&& 31).toUInt32).toInt32) &&& (1 : Int32)) + (1 : Int32))), .val (.int ((((p0.toUInt32 >>> ((4 : Int32) &&& 31).toUInt32).toInt32) &&& (1 : Int32)) + (1 : Int32))), .val (.ref b11), .val (.int (5 : Int32)), .val (.int (2 : Int32)), .val (.int (4 : Int32)), .unset, .unset, .unset] rfl ?_
                refine S.aload X.here hx (hb hby at_178) rfl rfl ?_
                refine S.iload X.here hx (hb hby at_180) rfl ?_
                refine S.lloadN X.here hx (hb hby at_182) rfl ?_
                refine S.iconst X.here hx (4 : Int32) (hb hby at_183) rfl ?_
                exact k)
            obtain ⟨v149, h149, Q149, K149, z149, w149⟩ := w148.callS hx (y := (⟨"com/example/bylaw/bylaw/TreePathParentPinLaw", "ch", "(JI)C"⟩ : MethodName)) (W := 2) (hw _ (List.mem_of_getElem? (i := 19) rfl)) (hw _ (List.mem_of_getElem? (i := 20) rfl)) (hw _ (List.mem_of_getElem? (i := 21) rfl)) (hw _ (List.mem_of_getElem? (i := 22) rfl)) (by decide) ((rmch l Z a0 hw p1 (4 : Int32) h146 n0 (by omega)).pay w148.hZ (hw _ (List.mem_of_getElem? (i := 22) rfl)) (hw _ (List.mem_of_getElem? (i := 21) rfl)) (by decide) (by decide)) rfl (by rw [hml]; rfl) [(.int (5 : Int32)), (.ref b11)] (lenOf pd_16 rfl) rfl (by show 2 * 0 + _ ≤ _; exact Nat.le_of_eq rfl) (hb hby at_184) (by decide) (by decide) (fun _ q => nomatch q) (fun rv => (mkF m 187 #[.val (.int p0), .val (.long p1), .second, .val (.int (p0 &&& (3 : Int32))), .val (.int ((((p0.toUInt32 >>> ((2 : Int32) &&& 31).toUInt32).toInt32) &&& (1 : Int32)) + (1 : Int32))), .val (.int ((((p0.toUInt32 >>> ((3 : Int32) &&& 31).toUInt32).toInt32) &&& (1 : Int32)) + (1 : Int32))), .val (.int ((((p0.toUInt32 >>> ((4 : Int32) &&& 31).toUInt32).toInt32) &&& (1 : Int32)) + (1 : Int32))), .val (.ref b11), .val (.int (5 : Int32)), .val (.int (2 : Int32)), .val (.int (4 : Int32)), .unset, .unset, .unset] (rv.toList ++ [(.int (5 : Int32)), (.ref b11)]))) (fun _ => rfl)
            obtain ⟨rfl, rfl⟩ := Q149
            obtain ⟨h150, W150, z150, V150, w150⟩ := w149.stC hx U146 5 rfl (Nat.le_of_ble_eq_true rfl) ⟨by decide, by decide⟩ rfl rfl (hb hby at_187) (by omega) (mkF m 188 #[.val (.int p0), .val (.long p1), .second, .val (.int (p0 &&& (3 : Int32))), .val (.int ((((p0.toUInt32 >>> ((2 : Int32) &&& 31).toUInt32).toInt32) &&& (1 : Int32)) + (1 : Int32))), .val (.int ((((p0.toUInt32 >>> ((3 : Int32) &&& 31).toUInt32).toInt32) &&& (1 : Int32)) + (1 : Int32))), .val (.int ((((p0.toUInt32 >>> ((4 : Int32) &&& 31).toUInt32).toInt32) &&& (1 : Int32)) + (1 : Int32))), .val (.ref b11), .val (.int (5 : Int32)), .val (.int (2 : Int32)), .val (.int (4 : Int32)), .unset, .unset, .unset] []) rfl
            rw [nar_rng (own_ch_ok _ _).1] at V150
            have U150 : Arv Z h150 b11 k11 .char (8 : Int32) [(.int (own_ch p1 (0 : Int32))), (.int (own_ch p1 (1 : Int32))), (.int (47 : Int32)), (.int (own_ch p1 (2 : Int32))), (.int (47 : Int32)), (.int (own_ch p1 (4 : Int32))), (.int (0 : Int32)), (.int (0 : Int32))] (.int (0 : Int32)) := V150
            have K151 : Keep h0 h150 [] := K147.wr W150 (Or.inr (by omega))
            have w152 := w150.pure (mkF m 197 #[.val (.int p0), .val (.long p1), .second, .val (.int (p0 &&& (3 : Int32))), .val (.int ((((p0.toUInt32 >>> ((2 : Int32) &&& 31).toUInt32).toInt32) &&& (1 : Int32)) + (1 : Int32))), .val (.int ((((p0.toUInt32 >>> ((3 : Int32) &&& 31).toUInt32).toInt32) &&& (1 : Int32)) + (1 : Int32))), .val (.int ((((p0.toUInt32 >>> ((4 : Int32) &&& 31).toUInt32).toInt32) &&& (1 : Int32)) + (1 : Int32))), .val (.ref b11), .val (.int (6 : Int32)), .val (.int (2 : Int32)), .val (.int (4 : Int32)), .unset, .unset, .unset] [(.int (2 : Int32)), (.int ((((p0.toUInt32 >>> ((4 : Int32) &&& 31).toUInt32).toInt32) &&& (1 : Int32)) + (1 : Int32)))]) (fun X eT hZ hown k => by
                show Steps _ _ _ (State.setTop _ (mkF m 188 #[.val (.int p0), .val (.long p1), .second, .val (.int (p0 &&& (3 : Int32))), .val (.int ((((p0.toUInt32 >>> ((2 : Int32) &&& 31).toUInt32).toInt32) &&& (1 : Int32)) + (1 : Int32))), .val (.int ((((p0.toUInt32 >>> ((3 : Int32) &&& 31).toUInt32).toInt32) &&& (1 : Int32)) + (1 : Int32))), .val (.int ((((p0.toUInt32 >>> ((4 : Int32) &&& 31).toUInt32).toInt32) &&& (1 : Int32)) + (1 : Int32))), .val (.ref b11), .val (.int (5 : Int32)), .val (.int (2 : Int32)), .val (.int (4 : Int32)), .unset, .unset, .unset] [])) _
                refine S.iload X.here hx (hb hby at_188) rfl ?_
                refine S.iconst X.here hx (1 : Int32) (hb hby at_190) rfl ?_
                refine S.iaddV X.here hx (6 : Int32) (hb hby at_191) rfl ?_
                refine S.istore X.here hx (hb hby at_192) #[.val (.int p0), .val (.long p1), .second, .val (.int (p0 &&& (3 : Int32))), .val (.int ((((p0.toUInt32 >>> ((2 : Int32) &&& 31).toUInt32).toInt32) &&& (1 : Int32)) + (1 : Int32))), .val (.int ((((p0.toUInt32 >>> ((3 : Int32) &&& 31).toUInt32).toInt32) &&& (1 : Int32)) + (1 : Int32))), .val (.int ((((p0.toUInt32 >>> ((4 : Int32) &&& 31).toUInt32).toInt32) &&& (1 : Int32)) + (1 : Int32))), .val (.ref b11), .val (.int (6 : Int32)), .val (.int (2 : Int32)), .val (.int (4 : Int32)), .unset, .unset, .unset] rfl ?_
                refine S.iload X.here hx (hb hby at_194) rfl ?_
                refine S.iconst X.here hx (2 : Int32) (hb hby at_196) rfl ?_
                exact k)
            by_cases hc153 : ((((p0.toUInt32 >>> ((4 : Int32) &&& 31).toUInt32).toInt32) &&& (1 : Int32)) + (1 : Int32)) = (2 : Int32)
            · have w154 := w152.pure (mkF m 206 #[.val (.int p0), .val (.long p1), .second, .val (.int (p0 &&& (3 : Int32))), .val (.int ((((p0.toUInt32 >>> ((2 : Int32) &&& 31).toUInt32).toInt32) &&& (1 : Int32)) + (1 : Int32))), .val (.int ((((p0.toUInt32 >>> ((3 : Int32) &&& 31).toUInt32).toInt32) &&& (1 : Int32)) + (1 : Int32))), .val (.int ((((p0.toUInt32 >>> ((4 : Int32) &&& 31).toUInt32).toInt32) &&& (1 : Int32)) + (1 : Int32))), .val (.ref b11), .val (.int (6 : Int32)), .val (.int (2 : Int32)), .val (.int (4 : Int32)), .unset, .unset, .unset] [(.int (5 : Int32)), (.long p1), (.int (6 : Int32)), (.ref b11)]) (fun X eT hZ hown k => by
                  show Steps _ _ _ (State.setTop _ (mkF m 197 #[.val (.int p0), .val (.long p1), .second, .val (.int (p0 &&& (3 : Int32))), .val (.int ((((p0.toUInt32 >>> ((2 : Int32) &&& 31).toUInt32).toInt32) &&& (1 : Int32)) + (1 : Int32))), .val (.int ((((p0.toUInt32 >>> ((3 : Int32) &&& 31).toUInt32).toInt32) &&& (1 : Int32)) + (1 : Int32))), .val (.int ((((p0.toUInt32 >>> ((4 : Int32) &&& 31).toUInt32).toInt32) &&& (1 : Int32)) + (1 : Int32))), .val (.ref b11), .val (.int (6 : Int32)), .val (.int (2 : Int32)), .val (.int (4 : Int32)), .unset, .unset, .unset] [(.int (2 : Int32)), (.int ((((p0.toUInt32 >>> ((4 : Int32) &&& 31).toUInt32).toInt32) &&& (1 : Int32)) + (1 : Int32)))])) _
                  refine S.icmpNo X.here hx (hb hby at_197) (teq hc153).2 ?_
                  refine S.aload X.here hx (hb hby at_200) rfl rfl ?_
                  refine S.iload X.here hx (hb hby at_202) rfl ?_
                  refine S.lloadN X.here hx (hb hby at_204) rfl ?_
                  refine S.iconst X.here hx (5 : Int32) (hb hby at_205) rfl ?_
                  exact k)
              obtain ⟨v155, h155, Q155, K155, z155, w155⟩ := w154.callS hx (y := (⟨"com/example/bylaw/bylaw/TreePathParentPinLaw", "ch", "(JI)C"⟩ : MethodName)) (W := 2) (hw _ (List.mem_of_getElem? (i := 19) rfl)) (hw _ (List.mem_of_getElem? (i := 20) rfl)) (hw _ (List.mem_of_getElem? (i := 21) rfl)) (hw _ (List.mem_of_getElem? (i := 22) rfl)) (by decide) ((rmch l Z a0 hw p1 (5 : Int32) h150 n0 (by omega)).pay w154.hZ (hw _ (List.mem_of_getElem? (i := 22) rfl)) (hw _ (List.mem_of_getElem? (i := 21) rfl)) (by decide) (by decide)) rfl (by rw [hml]; rfl) [(.int (6 : Int32)), (.ref b11)] (lenOf pd_16 rfl) rfl (by show 2 * 0 + _ ≤ _; exact Nat.le_of_eq rfl) (hb hby at_206) (by decide) (by decide) (fun _ q => nomatch q) (fun rv => (mkF m 209 #[.val (.int p0), .val (.long p1), .second, .val (.int (p0 &&& (3 : Int32))), .val (.int ((((p0.toUInt32 >>> ((2 : Int32) &&& 31).toUInt32).toInt32) &&& (1 : Int32)) + (1 : Int32))), .val (.int ((((p0.toUInt32 >>> ((3 : Int32) &&& 31).toUInt32).toInt32) &&& (1 : Int32)) + (1 : Int32))), .val (.int ((((p0.toUInt32 >>> ((4 : Int32) &&& 31).toUInt32).toInt32) &&& (1 : Int32)) + (1 : Int32))), .val (.ref b11), .val (.int (6 : Int32)), .val (.int (2 : Int32)), .val (.int (4 : Int32)), .unset, .unset, .unset] (rv.toList ++ [(.int (6 : Int32)), (.ref b11)]))) (fun _ => rfl)
              obtain ⟨rfl, rfl⟩ := Q155
              obtain ⟨h156, W156, z156, V156, w156⟩ := w155.stC hx U150 6 rfl (Nat.le_of_ble_eq_true rfl) ⟨by decide, by decide⟩ rfl rfl (hb hby at_209) (by omega) (mkF m 210 #[.val (.int p0), .val (.long p1), .second, .val (.int (p0 &&& (3 : Int32))), .val (.int ((((p0.toUInt32 >>> ((2 : Int32) &&& 31).toUInt32).toInt32) &&& (1 : Int32)) + (1 : Int32))), .val (.int ((((p0.toUInt32 >>> ((3 : Int32) &&& 31).toUInt32).toInt32) &&& (1 : Int32)) + (1 : Int32))), .val (.int ((((p0.toUInt32 >>> ((4 : Int32) &&& 31).toUInt32).toInt32) &&& (1 : Int32)) + (1 : Int32))), .val (.ref b11), .val (.int (6 : Int32)), .val (.int (2 : Int32)), .val (.int (4 : Int32)), .unset, .unset, .unset] []) rfl
              rw [nar_rng (own_ch_ok _ _).1] at V156
              have U156 : Arv Z h156 b11 k11 .char (8 : Int32) [(.int (own_ch p1 (0 : Int32))), (.int (own_ch p1 (1 : Int32))), (.int (47 : Int32)), (.int (own_ch p1 (2 : Int32))), (.int (47 : Int32)), (.int (own_ch p1 (4 : Int32))), (.int (own_ch p1 (5 : Int32))), (.int (0 : Int32))] (.int (0 : Int32)) := V156
              have K157 : Keep h0 h156 [] := K151.wr W156 (Or.inr (by omega))
              have w158 := w156.pure (mkF m 220 #[.val (.int p0), .val (.long p1), .second, .val (.int (p0 &&& (3 : Int32))), .val (.int ((((p0.toUInt32 >>> ((2 : Int32) &&& 31).toUInt32).toInt32) &&& (1 : Int32)) + (1 : Int32))), .val (.int ((((p0.toUInt32 >>> ((3 : Int32) &&& 31).toUInt32).toInt32) &&& (1 : Int32)) + (1 : Int32))), .val (.int ((((p0.toUInt32 >>> ((4 : Int32) &&& 31).toUInt32).toInt32) &&& (1 : Int32)) + (1 : Int32))), .val (.ref b11), .val (.int (7 : Int32)), .val (.int (2 : Int32)), .val (.int (4 : Int32)), .unset, .unset, .unset] [(.int (7 : Int32)), (.ref b11)]) (fun X eT hZ hown k => by
                  show Steps _ _ _ (State.setTop _ (mkF m 210 #[.val (.int p0), .val (.long p1), .second, .val (.int (p0 &&& (3 : Int32))), .val (.int ((((p0.toUInt32 >>> ((2 : Int32) &&& 31).toUInt32).toInt32) &&& (1 : Int32)) + (1 : Int32))), .val (.int ((((p0.toUInt32 >>> ((3 : Int32) &&& 31).toUInt32).toInt32) &&& (1 : Int32)) + (1 : Int32))), .val (.int ((((p0.toUInt32 >>> ((4 : Int32) &&& 31).toUInt32).toInt32) &&& (1 : Int32)) + (1 : Int32))), .val (.ref b11), .val (.int (6 : Int32)), .val (.int (2 : Int32)), .val (.int (4 : Int32)), .unset, .unset, .unset] [])) _
                  refine S.iload X.here hx (hb hby at_210) rfl ?_
                  refine S.iconst X.here hx (1 : Int32) (hb hby at_212) rfl ?_
                  refine S.iaddV X.here hx (7 : Int32) (hb hby at_213) rfl ?_
                  refine S.istore X.here hx (hb hby at_214) #[.val (.int p0), .val (.long p1), .second, .val (.int (p0 &&& (3 : Int32))), .val (.int ((((p0.toUInt32 >>> ((2 : Int32) &&& 31).toUInt32).toInt32) &&& (1 : Int32)) + (1 : Int32))), .val (.int ((((p0.toUInt32 >>> ((3 : Int32) &&& 31).toUInt32).toInt32) &&& (1 : Int32)) + (1 : Int32))), .val (.int ((((p0.toUInt32 >>> ((4 : Int32) &&& 31).toUInt32).toInt32) &&& (1 : Int32)) + (1 : Int32))), .val (.ref b11), .val (.int (7 : Int32)), .val (.int (2 : Int32)), .val (.int (4 : Int32)), .unset, .unset, .unset] rfl ?_
                  refine S.aload X.here hx (hb hby at_216) rfl rfl ?_
                  refine S.iload X.here hx (hb hby at_218) rfl ?_
                  exact k)
              have F159 := X0.ext E11
              have F160 := F159.wr W15 (by omega)
              have F161 := F160.wr W21 (by omega)
              have F162 := F161.wr W40 (by omega)
              have F163 := F162.wr W44 (by omega)
              have F164 := F163.wr W146 (by omega)
              have F165 := F164.wr W150 (by omega)
              have F166 := F165.wr W156 (by omega)
              obtain ⟨v167, h167, Q167, K167, z167, w167⟩ := w158.callS hx (y := (⟨"com/example/bylaw/bylaw/TreePathParentPinLaw", "str", "([CI)Ljava/lang/String;"⟩ : MethodName)) (W := 0) (hw _ (List.mem_of_getElem? (i := 24) rfl)) (hw _ (List.mem_of_getElem? (i := 25) rfl)) (hw _ (List.mem_of_getElem? (i := 21) rfl)) (hw _ (List.mem_of_getElem? (i := 26) rfl)) (by decide) ((rmt7 l Z a0 hw b11 k11 (own_ch p1 (0 : Int32)) (own_ch p1 (1 : Int32)) (47 : Int32) (own_ch p1 (2 : Int32)) (47 : Int32) (own_ch p1 (4 : Int32)) (own_ch p1 (5 : Int32)) (0 : Int32) h156 n0 (by omega) hG F166 U156 (own_ch_ok _ _).1 (own_ch_ok _ _).1 (by decide) (own_ch_ok _ _).1 (by decide) (own_ch_ok _ _).1 (own_ch_ok _ _).1 (by decide)).pay w158.hZ (hw _ (List.mem_of_getElem? (i := 26) rfl)) (hw _ (List.mem_of_getElem? (i := 21) rfl)) (by decide) (by decide)) rfl (by rw [hml]; rfl) [] (lenOf pd_17 rfl) rfl (by show 2 * 0 + _ ≤ _; exact Nat.le_of_eq rfl) (hb hby at_220) (by decide) (by decide) (fun _ q => nomatch q) (fun rv => (mkF m 223 #[.val (.int p0), .val (.long p1), .second, .val (.int (p0 &&& (3 : Int32))), .val (.int ((((p0.toUInt32 >>> ((2 : Int32) &&& 31).toUInt32).toInt32) &&& (1 : Int32)) + (1 : Int32))), .val (.int ((((p0.toUInt32 >>> ((3 : Int32) &&& 31).toUInt32).toInt32) &&& (1 : Int32)) + (1 : Int32))), .val (.int ((((p0.toUInt32 >>> ((4 : Int32) &&& 31).toUInt32).toInt32) &&& (1 : Int32)) + (1 : Int32))), .val (.ref b11), .val (.int (7 : Int32)), .val (.int (2 : Int32)), .val (.int (4 : Int32)), .unset, .unset, .unset] (rv.toList ++ []))) (fun _ => rfl)
              obtain ⟨x167, rfl, gx167, S167⟩ := Q167
              have K168 : Keep h0 h167 [] := K157.trans K167 (fun _ q => nomatch q)
              have lt_x167 := S167.lt
              have w169 := w167.pure (mkF m 258 #[.val (.int p0), .val (.long p1), .second, .val (.int (p0 &&& (3 : Int32))), .val (.int ((((p0.toUInt32 >>> ((2 : Int32) &&& 31).toUInt32).toInt32) &&& (1 : Int32)) + (1 : Int32))), .val (.int ((((p0.toUInt32 >>> ((3 : Int32) &&& 31).toUInt32).toInt32) &&& (1 : Int32)) + (1 : Int32))), .val (.int ((((p0.toUInt32 >>> ((4 : Int32) &&& 31).toUInt32).toInt32) &&& (1 : Int32)) + (1 : Int32))), .val (.ref b11), .val (.int (7 : Int32)), .val (.int (2 : Int32)), .val (.int (4 : Int32)), .val (.ref x167), .unset, .unset] [(.int (4 : Int32)), (.ref b11)]) (fun X eT hZ hown k => by
                  show Steps _ _ _ (State.setTop _ (mkF m 223 #[.val (.int p0), .val (.long p1), .second, .val (.int (p0 &&& (3 : Int32))), .val (.int ((((p0.toUInt32 >>> ((2 : Int32) &&& 31).toUInt32).toInt32) &&& (1 : Int32)) + (1 : Int32))), .val (.int ((((p0.toUInt32 >>> ((3 : Int32) &&& 31).toUInt32).toInt32) &&& (1 : Int32)) + (1 : Int32))), .val (.int ((((p0.toUInt32 >>> ((4 : Int32) &&& 31).toUInt32).toInt32) &&& (1 : Int32)) + (1 : Int32))), .val (.ref b11), .val (.int (7 : Int32)), .val (.int (2 : Int32)), .val (.int (4 : Int32)), .unset, .unset, .unset] [(.ref x167)])) _
                  refine S.astore X.here hx (hb hby at_223) rfl #[.val (.int p0), .val (.long p1), .second, .val (.int (p0 &&& (3 : Int32))), .val (.int ((((p0.toUInt32 >>> ((2 : Int32) &&& 31).toUInt32).toInt32) &&& (1 : Int32)) + (1 : Int32))), .val (.int ((((p0.toUInt32 >>> ((3 : Int32) &&& 31).toUInt32).toInt32) &&& (1 : Int32)) + (1 : Int32))), .val (.int ((((p0.toUInt32 >>> ((4 : Int32) &&& 31).toUInt32).toInt32) &&& (1 : Int32)) + (1 : Int32))), .val (.ref b11), .val (.int (7 : Int32)), .val (.int (2 : Int32)), .val (.int (4 : Int32)), .val (.ref x167), .unset, .unset] rfl ?_
                  refine S.iloadN X.here hx (hb hby at_225) rfl ?_
                  refine S.iconst X.here hx (1 : Int32) (hb hby at_226) rfl ?_
                  refine S.icmpYes X.here hx 237 (hb hby at_227) (feq (own_sh.2.2.1 hc24)).2 (by decide) (by decide) ?_
                  refine S.iloadN X.here hx (hb hby at_237) rfl ?_
                  refine S.iconst X.here hx (2 : Int32) (hb hby at_238) rfl ?_
                  refine S.icmpYes X.here hx 254 (hb hby at_239) (feq (own_sh.2.2.2.2 hc127)).2 (by decide) (by decide) ?_
                  refine S.aload X.here hx (hb hby at_254) rfl rfl ?_
                  refine S.iload X.here hx (hb hby at_256) rfl ?_
                  exact k)
              have F170 := F166.keep K167 all0
              have F171 := U156.keep K167 nin0
              obtain ⟨v172, h172, Q172, K172, z172, w172⟩ := w169.callS hx (y := (⟨"com/example/bylaw/bylaw/TreePathParentPinLaw", "str", "([CI)Ljava/lang/String;"⟩ : MethodName)) (W := 0) (hw _ (List.mem_of_getElem? (i := 24) rfl)) (hw _ (List.mem_of_getElem? (i := 25) rfl)) (hw _ (List.mem_of_getElem? (i := 21) rfl)) (hw _ (List.mem_of_getElem? (i := 26) rfl)) (by decide) ((rmt4 l Z a0 hw b11 k11 (own_ch p1 (0 : Int32)) (own_ch p1 (1 : Int32)) (47 : Int32) (own_ch p1 (2 : Int32)) (47 : Int32) (own_ch p1 (4 : Int32)) (own_ch p1 (5 : Int32)) (0 : Int32) h167 n0 (by omega) hG F170 F171 (own_ch_ok _ _).1 (own_ch_ok _ _).1 (by decide) (own_ch_ok _ _).1 (by decide) (own_ch_ok _ _).1 (own_ch_ok _ _).1 (by decide)).pay w169.hZ (hw _ (List.mem_of_getElem? (i := 26) rfl)) (hw _ (List.mem_of_getElem? (i := 21) rfl)) (by decide) (by decide)) rfl (by rw [hml]; rfl) [] (lenOf pd_17 rfl) rfl (by show 2 * 0 + _ ≤ _; exact Nat.le_of_eq rfl) (hb hby at_258) (by decide) (by decide) (fun _ q => nomatch q) (fun rv => (mkF m 261 #[.val (.int p0), .val (.long p1), .second, .val (.int (p0 &&& (3 : Int32))), .val (.int ((((p0.toUInt32 >>> ((2 : Int32) &&& 31).toUInt32).toInt32) &&& (1 : Int32)) + (1 : Int32))), .val (.int ((((p0.toUInt32 >>> ((3 : Int32) &&& 31).toUInt32).toInt32) &&& (1 : Int32)) + (1 : Int32))), .val (.int ((((p0.toUInt32 >>> ((4 : Int32) &&& 31).toUInt32).toInt32) &&& (1 : Int32)) + (1 : Int32))), .val (.ref b11), .val (.int (7 : Int32)), .val (.int (2 : Int32)), .val (.int (4 : Int32)), .val (.ref x167), .unset, .unset] (rv.toList ++ []))) (fun _ => rfl)
              obtain ⟨x172, rfl, gx172, S172⟩ := Q172
              have K173 : Keep h0 h172 [] := K168.trans K172 (fun _ q => nomatch q)
              have lt_x172 := S172.lt
              have w174 := w172.pure (mkF m 263 #[.val (.int p0), .val (.long p1), .second, .val (.int (p0 &&& (3 : Int32))), .val (.int ((((p0.toUInt32 >>> ((2 : Int32) &&& 31).toUInt32).toInt32) &&& (1 : Int32)) + (1 : Int32))), .val (.int ((((p0.toUInt32 >>> ((3 : Int32) &&& 31).toUInt32).toInt32) &&& (1 : Int32)) + (1 : Int32))), .val (.int ((((p0.toUInt32 >>> ((4 : Int32) &&& 31).toUInt32).toInt32) &&& (1 : Int32)) + (1 : Int32))), .val (.ref b11), .val (.int (7 : Int32)), .val (.int (2 : Int32)), .val (.int (4 : Int32)), .val (.ref x167), .val (.ref x172), .unset] []) (fun X eT hZ hown k => by
                  show Steps _ _ _ (State.setTop _ (mkF m 261 #[.val (.int p0), .val (.long p1), .second, .val (.int (p0 &&& (3 : Int32))), .val (.int ((((p0.toUInt32 >>> ((2 : Int32) &&& 31).toUInt32).toInt32) &&& (1 : Int32)) + (1 : Int32))), .val (.int ((((p0.toUInt32 >>> ((3 : Int32) &&& 31).toUInt32).toInt32) &&& (1 : Int32)) + (1 : Int32))), .val (.int ((((p0.toUInt32 >>> ((4 : Int32) &&& 31).toUInt32).toInt32) &&& (1 : Int32)) + (1 : Int32))), .val (.ref b11), .val (.int (7 : Int32)), .val (.int (2 : Int32)), .val (.int (4 : Int32)), .val (.ref x167), .unset, .unset] [(.ref x172)])) _
                  refine S.astore X.here hx (hb hby at_261) rfl #[.val (.int p0), .val (.long p1), .second, .val (.int (p0 &&& (3 : Int32))), .val (.int ((((p0.toUInt32 >>> ((2 : Int32) &&& 31).toUInt32).toInt32) &&& (1 : Int32)) + (1 : Int32))), .val (.int ((((p0.toUInt32 >>> ((3 : Int32) &&& 31).toUInt32).toInt32) &&& (1 : Int32)) + (1 : Int32))), .val (.int ((((p0.toUInt32 >>> ((4 : Int32) &&& 31).toUInt32).toInt32) &&& (1 : Int32)) + (1 : Int32))), .val (.ref b11), .val (.int (7 : Int32)), .val (.int (2 : Int32)), .val (.int (4 : Int32)), .val (.ref x167), .val (.ref x172), .unset] rfl ?_
                  exact k)
              have pp175 := own_pp_ccscscc (own_ch p1 (0 : Int32)) (own_ch p1 (1 : Int32)) (own_ch p1 (2 : Int32)) (own_ch p1 (4 : Int32)) (own_ch p1 (5 : Int32)) (own_ch_ok _ _).2 (own_ch_ok _ _).2 (own_ch_ok _ _).2 (own_ch_ok _ _).2 (own_ch_ok _ _).2
              have F176 := F170.keep K172 all0
              have F177 := S167.keep K172 all0
              exact ptT l Z a0 hw hE Bd hml p0 (p0 &&& (3 : Int32)) ((((p0.toUInt32 >>> ((2 : Int32) &&& 31).toUInt32).toInt32) &&& (1 : Int32)) + (1 : Int32)) ((((p0.toUInt32 >>> ((3 : Int32) &&& 31).toUInt32).toInt32) &&& (1 : Int32)) + (1 : Int32)) ((((p0.toUInt32 >>> ((4 : Int32) &&& 31).toUInt32).toInt32) &&& (1 : Int32)) + (1 : Int32)) (7 : Int32) (2 : Int32) (4 : Int32) p1 b11 x167 x172 [(own_ch p1 (0 : Int32)), (own_ch p1 (1 : Int32)), (47 : Int32), (own_ch p1 (2 : Int32)), (47 : Int32), (own_ch p1 (4 : Int32)), (own_ch p1 (5 : Int32))] [(own_ch p1 (0 : Int32)), (own_ch p1 (1 : Int32)), (47 : Int32), (own_ch p1 (2 : Int32))] h0 n0 Z0 (w174.more (k := 16) (n := 160) (by decide) (by decide)) K173 (by omega) hG F176 (F177.more (by omega)) (S172.more (by omega)) pp175.1 pp175.2.1 pp175.2.2.1 pp175.2.2.2
            · have w178 := w152.pure (mkF m 220 #[.val (.int p0), .val (.long p1), .second, .val (.int (p0 &&& (3 : Int32))), .val (.int ((((p0.toUInt32 >>> ((2 : Int32) &&& 31).toUInt32).toInt32) &&& (1 : Int32)) + (1 : Int32))), .val (.int ((((p0.toUInt32 >>> ((3 : Int32) &&& 31).toUInt32).toInt32) &&& (1 : Int32)) + (1 : Int32))), .val (.int ((((p0.toUInt32 >>> ((4 : Int32) &&& 31).toUInt32).toInt32) &&& (1 : Int32)) + (1 : Int32))), .val (.ref b11), .val (.int (6 : Int32)), .val (.int (2 : Int32)), .val (.int (4 : Int32)), .unset, .unset, .unset] [(.int (6 : Int32)), (.ref b11)]) (fun X eT hZ hown k => by
                  show Steps _ _ _ (State.setTop _ (mkF m 197 #[.val (.int p0), .val (.long p1), .second, .val (.int (p0 &&& (3 : Int32))), .val (.int ((((p0.toUInt32 >>> ((2 : Int32) &&& 31).toUInt32).toInt32) &&& (1 : Int32)) + (1 : Int32))), .val (.int ((((p0.toUInt32 >>> ((3 : Int32) &&& 31).toUInt32).toInt32) &&& (1 : Int32)) + (1 : Int32))), .val (.int ((((p0.toUInt32 >>> ((4 : Int32) &&& 31).toUInt32).toInt32) &&& (1 : Int32)) + (1 : Int32))), .val (.ref b11), .val (.int (6 : Int32)), .val (.int (2 : Int32)), .val (.int (4 : Int32)), .unset, .unset, .unset] [(.int (2 : Int32)), (.int ((((p0.toUInt32 >>> ((4 : Int32) &&& 31).toUInt32).toInt32) &&& (1 : Int32)) + (1 : Int32)))])) _
                  refine S.icmpYes X.here hx 216 (hb hby at_197) (feq hc153).2 (by decide) (by decide) ?_
                  refine S.aload X.here hx (hb hby at_216) rfl rfl ?_
                  refine S.iload X.here hx (hb hby at_218) rfl ?_
                  exact k)
              have F179 := X0.ext E11
              have F180 := F179.wr W15 (by omega)
              have F181 := F180.wr W21 (by omega)
              have F182 := F181.wr W40 (by omega)
              have F183 := F182.wr W44 (by omega)
              have F184 := F183.wr W146 (by omega)
              have F185 := F184.wr W150 (by omega)
              obtain ⟨v186, h186, Q186, K186, z186, w186⟩ := w178.callS hx (y := (⟨"com/example/bylaw/bylaw/TreePathParentPinLaw", "str", "([CI)Ljava/lang/String;"⟩ : MethodName)) (W := 0) (hw _ (List.mem_of_getElem? (i := 24) rfl)) (hw _ (List.mem_of_getElem? (i := 25) rfl)) (hw _ (List.mem_of_getElem? (i := 21) rfl)) (hw _ (List.mem_of_getElem? (i := 26) rfl)) (by decide) ((rmt6 l Z a0 hw b11 k11 (own_ch p1 (0 : Int32)) (own_ch p1 (1 : Int32)) (47 : Int32) (own_ch p1 (2 : Int32)) (47 : Int32) (own_ch p1 (4 : Int32)) (0 : Int32) (0 : Int32) h150 n0 (by omega) hG F185 U150 (own_ch_ok _ _).1 (own_ch_ok _ _).1 (by decide) (own_ch_ok _ _).1 (by decide) (own_ch_ok _ _).1 (by decide) (by decide)).pay w178.hZ (hw _ (List.mem_of_getElem? (i := 26) rfl)) (hw _ (List.mem_of_getElem? (i := 21) rfl)) (by decide) (by decide)) rfl (by rw [hml]; rfl) [] (lenOf pd_17 rfl) rfl (by show 2 * 0 + _ ≤ _; exact Nat.le_of_eq rfl) (hb hby at_220) (by decide) (by decide) (fun _ q => nomatch q) (fun rv => (mkF m 223 #[.val (.int p0), .val (.long p1), .second, .val (.int (p0 &&& (3 : Int32))), .val (.int ((((p0.toUInt32 >>> ((2 : Int32) &&& 31).toUInt32).toInt32) &&& (1 : Int32)) + (1 : Int32))), .val (.int ((((p0.toUInt32 >>> ((3 : Int32) &&& 31).toUInt32).toInt32) &&& (1 : Int32)) + (1 : Int32))), .val (.int ((((p0.toUInt32 >>> ((4 : Int32) &&& 31).toUInt32).toInt32) &&& (1 : Int32)) + (1 : Int32))), .val (.ref b11), .val (.int (6 : Int32)), .val (.int (2 : Int32)), .val (.int (4 : Int32)), .unset, .unset, .unset] (rv.toList ++ []))) (fun _ => rfl)
              obtain ⟨x186, rfl, gx186, S186⟩ := Q186
              have K187 : Keep h0 h186 [] := K151.trans K186 (fun _ q => nomatch q)
              have lt_x186 := S186.lt
              have w188 := w186.pure (mkF m 258 #[.val (.int p0), .val (.long p1), .second, .val (.int (p0 &&& (3 : Int32))), .val (.int ((((p0.toUInt32 >>> ((2 : Int32) &&& 31).toUInt32).toInt32) &&& (1 : Int32)) + (1 : Int32))), .val (.int ((((p0.toUInt32 >>> ((3 : Int32) &&& 31).toUInt32).toInt32) &&& (1 : Int32)) + (1 : Int32))), .val (.int ((((p0.toUInt32 >>> ((4 : Int32) &&& 31).toUInt32).toInt32) &&& (1 : Int32)) + (1 : Int32))), .val (.ref b11), .val (.int (6 : Int32)), .val (.int (2 : Int32)), .val (.int (4 : Int32)), .val (.ref x186), .unset, .unset] [(.int (4 : Int32)), (.ref b11)]) (fun X eT hZ hown k => by
                  show Steps _ _ _ (State.setTop _ (mkF m 223 #[.val (.int p0), .val (.long p1), .second, .val (.int (p0 &&& (3 : Int32))), .val (.int ((((p0.toUInt32 >>> ((2 : Int32) &&& 31).toUInt32).toInt32) &&& (1 : Int32)) + (1 : Int32))), .val (.int ((((p0.toUInt32 >>> ((3 : Int32) &&& 31).toUInt32).toInt32) &&& (1 : Int32)) + (1 : Int32))), .val (.int ((((p0.toUInt32 >>> ((4 : Int32) &&& 31).toUInt32).toInt32) &&& (1 : Int32)) + (1 : Int32))), .val (.ref b11), .val (.int (6 : Int32)), .val (.int (2 : Int32)), .val (.int (4 : Int32)), .unset, .unset, .unset] [(.ref x186)])) _
                  refine S.astore X.here hx (hb hby at_223) rfl #[.val (.int p0), .val (.long p1), .second, .val (.int (p0 &&& (3 : Int32))), .val (.int ((((p0.toUInt32 >>> ((2 : Int32) &&& 31).toUInt32).toInt32) &&& (1 : Int32)) + (1 : Int32))), .val (.int ((((p0.toUInt32 >>> ((3 : Int32) &&& 31).toUInt32).toInt32) &&& (1 : Int32)) + (1 : Int32))), .val (.int ((((p0.toUInt32 >>> ((4 : Int32) &&& 31).toUInt32).toInt32) &&& (1 : Int32)) + (1 : Int32))), .val (.ref b11), .val (.int (6 : Int32)), .val (.int (2 : Int32)), .val (.int (4 : Int32)), .val (.ref x186), .unset, .unset] rfl ?_
                  refine S.iloadN X.here hx (hb hby at_225) rfl ?_
                  refine S.iconst X.here hx (1 : Int32) (hb hby at_226) rfl ?_
                  refine S.icmpYes X.here hx 237 (hb hby at_227) (feq (own_sh.2.2.1 hc24)).2 (by decide) (by decide) ?_
                  refine S.iloadN X.here hx (hb hby at_237) rfl ?_
                  refine S.iconst X.here hx (2 : Int32) (hb hby at_238) rfl ?_
                  refine S.icmpYes X.here hx 254 (hb hby at_239) (feq (own_sh.2.2.2.2 hc127)).2 (by decide) (by decide) ?_
                  refine S.aload X.here hx (hb hby at_254) rfl rfl ?_
                  refine S.iload X.here hx (hb hby at_256) rfl ?_
                  exact k)
              have F189 := F185.keep K186 all0
              have F190 := U150.keep K186 nin0
              obtain ⟨v191, h191, Q191, K191, z191, w191⟩ := w188.callS hx (y := (⟨"com/example/bylaw/bylaw/TreePathParentPinLaw", "str", "([CI)Ljava/lang/String;"⟩ : MethodName)) (W := 0) (hw _ (List.mem_of_getElem? (i := 24) rfl)) (hw _ (List.mem_of_getElem? (i := 25) rfl)) (hw _ (List.mem_of_getElem? (i := 21) rfl)) (hw _ (List.mem_of_getElem? (i := 26) rfl)) (by decide) ((rmt4 l Z a0 hw b11 k11 (own_ch p1 (0 : Int32)) (own_ch p1 (1 : Int32)) (47 : Int32) (own_ch p1 (2 : Int32)) (47 : Int32) (own_ch p1 (4 : Int32)) (0 : Int32) (0 : Int32) h186 n0 (by omega) hG F189 F190 (own_ch_ok _ _).1 (own_ch_ok _ _).1 (by decide) (own_ch_ok _ _).1 (by decide) (own_ch_ok _ _).1 (by decide) (by decide)).pay w188.hZ (hw _ (List.mem_of_getElem? (i := 26) rfl)) (hw _ (List.mem_of_getElem? (i := 21) rfl)) (by decide) (by decide)) rfl (by rw [hml]; rfl) [] (lenOf pd_17 rfl) rfl (by show 2 * 0 + _ ≤ _; exact Nat.le_of_eq rfl) (hb hby at_258) (by decide) (by decide) (fun _ q => nomatch q) (fun rv => (mkF m 261 #[.val (.int p0), .val (.long p1), .second, .val (.int (p0 &&& (3 : Int32))), .val (.int ((((p0.toUInt32 >>> ((2 : Int32) &&& 31).toUInt32).toInt32) &&& (1 : Int32)) + (1 : Int32))), .val (.int ((((p0.toUInt32 >>> ((3 : Int32) &&& 31).toUInt32).toInt32) &&& (1 : Int32)) + (1 : Int32))), .val (.int ((((p0.toUInt32 >>> ((4 : Int32) &&& 31).toUInt32).toInt32) &&& (1 : Int32)) + (1 : Int32))), .val (.ref b11), .val (.int (6 : Int32)), .val (.int (2 : Int32)), .val (.int (4 : Int32)), .val (.ref x186), .unset, .unset] (rv.toList ++ []))) (fun _ => rfl)
              obtain ⟨x191, rfl, gx191, S191⟩ := Q191
              have K192 : Keep h0 h191 [] := K187.trans K191 (fun _ q => nomatch q)
              have lt_x191 := S191.lt
              have w193 := w191.pure (mkF m 263 #[.val (.int p0), .val (.long p1), .second, .val (.int (p0 &&& (3 : Int32))), .val (.int ((((p0.toUInt32 >>> ((2 : Int32) &&& 31).toUInt32).toInt32) &&& (1 : Int32)) + (1 : Int32))), .val (.int ((((p0.toUInt32 >>> ((3 : Int32) &&& 31).toUInt32).toInt32) &&& (1 : Int32)) + (1 : Int32))), .val (.int ((((p0.toUInt32 >>> ((4 : Int32) &&& 31).toUInt32).toInt32) &&& (1 : Int32)) + (1 : Int32))), .val (.ref b11), .val (.int (6 : Int32)), .val (.int (2 : Int32)), .val (.int (4 : Int32)), .val (.ref x186), .val (.ref x191), .unset] []) (fun X eT hZ hown k => by
                  show Steps _ _ _ (State.setTop _ (mkF m 261 #[.val (.int p0), .val (.long p1), .second, .val (.int (p0 &&& (3 : Int32))), .val (.int ((((p0.toUInt32 >>> ((2 : Int32) &&& 31).toUInt32).toInt32) &&& (1 : Int32)) + (1 : Int32))), .val (.int ((((p0.toUInt32 >>> ((3 : Int32) &&& 31).toUInt32).toInt32) &&& (1 : Int32)) + (1 : Int32))), .val (.int ((((p0.toUInt32 >>> ((4 : Int32) &&& 31).toUInt32).toInt32) &&& (1 : Int32)) + (1 : Int32))), .val (.ref b11), .val (.int (6 : Int32)), .val (.int (2 : Int32)), .val (.int (4 : Int32)), .val (.ref x186), .unset, .unset] [(.ref x191)])) _
                  refine S.astore X.here hx (hb hby at_261) rfl #[.val (.int p0), .val (.long p1), .second, .val (.int (p0 &&& (3 : Int32))), .val (.int ((((p0.toUInt32 >>> ((2 : Int32) &&& 31).toUInt32).toInt32) &&& (1 : Int32)) + (1 : Int32))), .val (.int ((((p0.toUInt32 >>> ((3 : Int32) &&& 31).toUInt32).toInt32) &&& (1 : Int32)) + (1 : Int32))), .val (.int ((((p0.toUInt32 >>> ((4 : Int32) &&& 31).toUInt32).toInt32) &&& (1 : Int32)) + (1 : Int32))), .val (.ref b11), .val (.int (6 : Int32)), .val (.int (2 : Int32)), .val (.int (4 : Int32)), .val (.ref x186), .val (.ref x191), .unset] rfl ?_
                  exact k)
              have pp194 := own_pp_ccscsc (own_ch p1 (0 : Int32)) (own_ch p1 (1 : Int32)) (own_ch p1 (2 : Int32)) (own_ch p1 (4 : Int32)) (own_ch_ok _ _).2 (own_ch_ok _ _).2 (own_ch_ok _ _).2 (own_ch_ok _ _).2
              have F195 := F189.keep K191 all0
              have F196 := S186.keep K191 all0
              exact ptT l Z a0 hw hE Bd hml p0 (p0 &&& (3 : Int32)) ((((p0.toUInt32 >>> ((2 : Int32) &&& 31).toUInt32).toInt32) &&& (1 : Int32)) + (1 : Int32)) ((((p0.toUInt32 >>> ((3 : Int32) &&& 31).toUInt32).toInt32) &&& (1 : Int32)) + (1 : Int32)) ((((p0.toUInt32 >>> ((4 : Int32) &&& 31).toUInt32).toInt32) &&& (1 : Int32)) + (1 : Int32)) (6 : Int32) (2 : Int32) (4 : Int32) p1 b11 x186 x191 [(own_ch p1 (0 : Int32)), (own_ch p1 (1 : Int32)), (47 : Int32), (own_ch p1 (2 : Int32)), (47 : Int32), (own_ch p1 (4 : Int32))] [(own_ch p1 (0 : Int32)), (own_ch p1 (1 : Int32)), (47 : Int32), (own_ch p1 (2 : Int32))] h0 n0 Z0 (w193.more (k := 16) (n := 160) (by decide) (by decide)) K192 (by omega) hG F195 (F196.more (by omega)) (S191.more (by omega)) pp194.1 pp194.2.1 pp194.2.2.1 pp194.2.2.2
    · have w197 := w17.pure (mkF m 102 #[.val (.int p0), .val (.long p1), .second, .val (.int (p0 &&& (3 : Int32))), .val (.int ((((p0.toUInt32 >>> ((2 : Int32) &&& 31).toUInt32).toInt32) &&& (1 : Int32)) + (1 : Int32))), .val (.int ((((p0.toUInt32 >>> ((3 : Int32) &&& 31).toUInt32).toInt32) &&& (1 : Int32)) + (1 : Int32))), .val (.int ((((p0.toUInt32 >>> ((4 : Int32) &&& 31).toUInt32).toInt32) &&& (1 : Int32)) + (1 : Int32))), .val (.ref b11), .val (.int (1 : Int32)), .val (.int (1 : Int32)), .unset, .unset, .unset, .unset] [(.int (2 : Int32)), (.int (p0 &&& (3 : Int32)))]) (fun X eT hZ hown k => by
          show Steps _ _ _ (State.setTop _ (mkF m 77 #[.val (.int p0), .val (.long p1), .second, .val (.int (p0 &&& (3 : Int32))), .val (.int ((((p0.toUInt32 >>> ((2 : Int32) &&& 31).toUInt32).toInt32) &&& (1 : Int32)) + (1 : Int32))), .val (.int ((((p0.toUInt32 >>> ((3 : Int32) &&& 31).toUInt32).toInt32) &&& (1 : Int32)) + (1 : Int32))), .val (.int ((((p0.toUInt32 >>> ((4 : Int32) &&& 31).toUInt32).toInt32) &&& (1 : Int32)) + (1 : Int32))), .val (.ref b11), .val (.int (1 : Int32)), .unset, .unset, .unset, .unset, .unset] [(.int (2 : Int32)), (.int ((((p0.toUInt32 >>> ((2 : Int32) &&& 31).toUInt32).toInt32) &&& (1 : Int32)) + (1 : Int32)))])) _
          refine S.icmpYes X.here hx 96 (hb hby at_77) (feq hc18).2 (by decide) (by decide) ?_
          refine S.iload X.here hx (hb hby at_96) rfl ?_
          refine S.istore X.here hx (hb hby at_98) #[.val (.int p0), .val (.long p1), .second, .val (.int (p0 &&& (3 : Int32))), .val (.int ((((p0.toUInt32 >>> ((2 : Int32) &&& 31).toUInt32).toInt32) &&& (1 : Int32)) + (1 : Int32))), .val (.int ((((p0.toUInt32 >>> ((3 : Int32) &&& 31).toUInt32).toInt32) &&& (1 : Int32)) + (1 : Int32))), .val (.int ((((p0.toUInt32 >>> ((4 : Int32) &&& 31).toUInt32).toInt32) &&& (1 : Int32)) + (1 : Int32))), .val (.ref b11), .val (.int (1 : Int32)), .val (.int (1 : Int32)), .unset, .unset, .unset, .unset] rfl ?_
          refine S.iloadN X.here hx (hb hby at_100) rfl ?_
          refine S.iconst X.here hx (2 : Int32) (hb hby at_101) rfl ?_
          exact k)
      by_cases hc198 : (p0 &&& (3 : Int32)) < (2 : Int32)
      · have w199 := w197.pure (mkF m 220 #[.val (.int p0), .val (.long p1), .second, .val (.int (p0 &&& (3 : Int32))), .val (.int ((((p0.toUInt32 >>> ((2 : Int32) &&& 31).toUInt32).toInt32) &&& (1 : Int32)) + (1 : Int32))), .val (.int ((((p0.toUInt32 >>> ((3 : Int32) &&& 31).toUInt32).toInt32) &&& (1 : Int32)) + (1 : Int32))), .val (.int ((((p0.toUInt32 >>> ((4 : Int32) &&& 31).toUInt32).toInt32) &&& (1 : Int32)) + (1 : Int32))), .val (.ref b11), .val (.int (1 : Int32)), .val (.int (1 : Int32)), .val (.int (1 : Int32)), .unset, .unset, .unset] [(.int (1 : Int32)), (.ref b11)]) (fun X eT hZ hown k => by
            show Steps _ _ _ (State.setTop _ (mkF m 102 #[.val (.int p0), .val (.long p1), .second, .val (.int (p0 &&& (3 : Int32))), .val (.int ((((p0.toUInt32 >>> ((2 : Int32) &&& 31).toUInt32).toInt32) &&& (1 : Int32)) + (1 : Int32))), .val (.int ((((p0.toUInt32 >>> ((3 : Int32) &&& 31).toUInt32).toInt32) &&& (1 : Int32)) + (1 : Int32))), .val (.int ((((p0.toUInt32 >>> ((4 : Int32) &&& 31).toUInt32).toInt32) &&& (1 : Int32)) + (1 : Int32))), .val (.ref b11), .val (.int (1 : Int32)), .val (.int (1 : Int32)), .unset, .unset, .unset, .unset] [(.int (2 : Int32)), (.int (p0 &&& (3 : Int32)))])) _
            refine S.icmpYes X.here hx 156 (hb hby at_102) (tlt hc198).1 (by decide) (by decide) ?_
            refine S.iload X.here hx (hb hby at_156) rfl ?_
            refine S.istore X.here hx (hb hby at_158) #[.val (.int p0), .val (.long p1), .second, .val (.int (p0 &&& (3 : Int32))), .val (.int ((((p0.toUInt32 >>> ((2 : Int32) &&& 31).toUInt32).toInt32) &&& (1 : Int32)) + (1 : Int32))), .val (.int ((((p0.toUInt32 >>> ((3 : Int32) &&& 31).toUInt32).toInt32) &&& (1 : Int32)) + (1 : Int32))), .val (.int ((((p0.toUInt32 >>> ((4 : Int32) &&& 31).toUInt32).toInt32) &&& (1 : Int32)) + (1 : Int32))), .val (.ref b11), .val (.int (1 : Int32)), .val (.int (1 : Int32)), .val (.int (1 : Int32)), .unset, .unset, .unset] rfl ?_
            refine S.iloadN X.here hx (hb hby at_160) rfl ?_
            refine S.iconst X.here hx (3 : Int32) (hb hby at_161) rfl ?_
            refine S.icmpYes X.here hx 216 (hb hby at_162) (tlt (own_sh.2.1 hc198)).1 (by decide) (by decide) ?_
            refine S.aload X.here hx (hb hby at_216) rfl rfl ?_
            refine S.iload X.here hx (hb hby at_218) rfl ?_
            exact k)
        have F200 := X0.ext E11
        have F201 := F200.wr W15 (by omega)
        obtain ⟨v202, h202, Q202, K202, z202, w202⟩ := w199.callS hx (y := (⟨"com/example/bylaw/bylaw/TreePathParentPinLaw", "str", "([CI)Ljava/lang/String;"⟩ : MethodName)) (W := 0) (hw _ (List.mem_of_getElem? (i := 24) rfl)) (hw _ (List.mem_of_getElem? (i := 25) rfl)) (hw _ (List.mem_of_getElem? (i := 21) rfl)) (hw _ (List.mem_of_getElem? (i := 26) rfl)) (by decide) ((rmt1 l Z a0 hw b11 k11 (own_ch p1 (0 : Int32)) (0 : Int32) (0 : Int32) (0 : Int32) (0 : Int32) (0 : Int32) (0 : Int32) (0 : Int32) h15 n0 (by omega) hG F201 U15 (own_ch_ok _ _).1 (by decide) (by decide) (by decide) (by decide) (by decide) (by decide) (by decide)).pay w199.hZ (hw _ (List.mem_of_getElem? (i := 26) rfl)) (hw _ (List.mem_of_getElem? (i := 21) rfl)) (by decide) (by decide)) rfl (by rw [hml]; rfl) [] (lenOf pd_17 rfl) rfl (by show 2 * 0 + _ ≤ _; exact Nat.le_of_eq rfl) (hb hby at_220) (by decide) (by decide) (fun _ q => nomatch q) (fun rv => (mkF m 223 #[.val (.int p0), .val (.long p1), .second, .val (.int (p0 &&& (3 : Int32))), .val (.int ((((p0.toUInt32 >>> ((2 : Int32) &&& 31).toUInt32).toInt32) &&& (1 : Int32)) + (1 : Int32))), .val (.int ((((p0.toUInt32 >>> ((3 : Int32) &&& 31).toUInt32).toInt32) &&& (1 : Int32)) + (1 : Int32))), .val (.int ((((p0.toUInt32 >>> ((4 : Int32) &&& 31).toUInt32).toInt32) &&& (1 : Int32)) + (1 : Int32))), .val (.ref b11), .val (.int (1 : Int32)), .val (.int (1 : Int32)), .val (.int (1 : Int32)), .unset, .unset, .unset] (rv.toList ++ []))) (fun _ => rfl)
        obtain ⟨x202, rfl, gx202, S202⟩ := Q202
        have K203 : Keep h0 h202 [] := K16.trans K202 (fun _ q => nomatch q)
        have lt_x202 := S202.lt
        have w204 := w202.pure (mkF m 230 #[.val (.int p0), .val (.long p1), .second, .val (.int (p0 &&& (3 : Int32))), .val (.int ((((p0.toUInt32 >>> ((2 : Int32) &&& 31).toUInt32).toInt32) &&& (1 : Int32)) + (1 : Int32))), .val (.int ((((p0.toUInt32 >>> ((3 : Int32) &&& 31).toUInt32).toInt32) &&& (1 : Int32)) + (1 : Int32))), .val (.int ((((p0.toUInt32 >>> ((4 : Int32) &&& 31).toUInt32).toInt32) &&& (1 : Int32)) + (1 : Int32))), .val (.ref b11), .val (.int (1 : Int32)), .val (.int (1 : Int32)), .val (.int (1 : Int32)), .val (.ref x202), .unset, .unset] []) (fun X eT hZ hown k => by
            show Steps _ _ _ (State.setTop _ (mkF m 223 #[.val (.int p0), .val (.long p1), .second, .val (.int (p0 &&& (3 : Int32))), .val (.int ((((p0.toUInt32 >>> ((2 : Int32) &&& 31).toUInt32).toInt32) &&& (1 : Int32)) + (1 : Int32))), .val (.int ((((p0.toUInt32 >>> ((3 : Int32) &&& 31).toUInt32).toInt32) &&& (1 : Int32)) + (1 : Int32))), .val (.int ((((p0.toUInt32 >>> ((4 : Int32) &&& 31).toUInt32).toInt32) &&& (1 : Int32)) + (1 : Int32))), .val (.ref b11), .val (.int (1 : Int32)), .val (.int (1 : Int32)), .val (.int (1 : Int32)), .unset, .unset, .unset] [(.ref x202)])) _
            refine S.astore X.here hx (hb hby at_223) rfl #[.val (.int p0), .val (.long p1), .second, .val (.int (p0 &&& (3 : Int32))), .val (.int ((((p0.toUInt32 >>> ((2 : Int32) &&& 31).toUInt32).toInt32) &&& (1 : Int32)) + (1 : Int32))), .val (.int ((((p0.toUInt32 >>> ((3 : Int32) &&& 31).toUInt32).toInt32) &&& (1 : Int32)) + (1 : Int32))), .val (.int ((((p0.toUInt32 >>> ((4 : Int32) &&& 31).toUInt32).toInt32) &&& (1 : Int32)) + (1 : Int32))), .val (.ref b11), .val (.int (1 : Int32)), .val (.int (1 : Int32)), .val (.int (1 : Int32)), .val (.ref x202), .unset, .unset] rfl ?_
            refine S.iloadN X.here hx (hb hby at_225) rfl ?_
            refine S.iconst X.here hx (1 : Int32) (hb hby at_226) rfl ?_
            refine S.icmpNo X.here hx (hb hby at_227) (teq (own_sh.1 hc2 hc198)).2 ?_
            exact k)
        obtain ⟨b205, vm205, h205, t205, k205, E205, A205, F205c, F205v, V205, l205, m205, C205, N205, w205⟩ := w204.ldcCH hx (text := "/") (hw _ (List.mem_of_getElem? (i := 0) rfl)) hS (List.mem_of_getElem? (i := 1) rfl) (vs := [(.int (47 : Int32))]) (z := (1 : Int32)) ⟨by decide, by decide⟩ (by decide) (by decide) rfl (hb hby at_230) 4 (by decide) (by decide) (by decide) (by decide) (fun xq => (mkF m 232 #[.val (.int p0), .val (.long p1), .second, .val (.int (p0 &&& (3 : Int32))), .val (.int ((((p0.toUInt32 >>> ((2 : Int32) &&& 31).toUInt32).toInt32) &&& (1 : Int32)) + (1 : Int32))), .val (.int ((((p0.toUInt32 >>> ((3 : Int32) &&& 31).toUInt32).toInt32) &&& (1 : Int32)) + (1 : Int32))), .val (.int ((((p0.toUInt32 >>> ((4 : Int32) &&& 31).toUInt32).toInt32) &&& (1 : Int32)) + (1 : Int32))), .val (.ref b11), .val (.int (1 : Int32)), .val (.int (1 : Int32)), .val (.int (1 : Int32)), .val (.ref x202), .unset, .unset] (.ref xq :: []))) (fun _ => rfl)
        have z205 := E205.1
        have K206 : Keep h0 h205 [] := K203.ext E205
        have S205 : Str Z h205 b205 [(47 : Int32)] h205.size := Str.of A205 F205v F205c V205 rfl rfl (List.forall_mem_cons.mpr ⟨by decide, (fun _ q => nomatch q)⟩) (by decide) l205 m205
        have w207 := w205.pure (mkF m 263 #[.val (.int p0), .val (.long p1), .second, .val (.int (p0 &&& (3 : Int32))), .val (.int ((((p0.toUInt32 >>> ((2 : Int32) &&& 31).toUInt32).toInt32) &&& (1 : Int32)) + (1 : Int32))), .val (.int ((((p0.toUInt32 >>> ((3 : Int32) &&& 31).toUInt32).toInt32) &&& (1 : Int32)) + (1 : Int32))), .val (.int ((((p0.toUInt32 >>> ((4 : Int32) &&& 31).toUInt32).toInt32) &&& (1 : Int32)) + (1 : Int32))), .val (.ref b11), .val (.int (1 : Int32)), .val (.int (1 : Int32)), .val (.int (1 : Int32)), .val (.ref x202), .val (.ref b205), .unset] []) (fun X eT hZ hown k => by
            show Steps _ _ _ (State.setTop _ (mkF m 232 #[.val (.int p0), .val (.long p1), .second, .val (.int (p0 &&& (3 : Int32))), .val (.int ((((p0.toUInt32 >>> ((2 : Int32) &&& 31).toUInt32).toInt32) &&& (1 : Int32)) + (1 : Int32))), .val (.int ((((p0.toUInt32 >>> ((3 : Int32) &&& 31).toUInt32).toInt32) &&& (1 : Int32)) + (1 : Int32))), .val (.int ((((p0.toUInt32 >>> ((4 : Int32) &&& 31).toUInt32).toInt32) &&& (1 : Int32)) + (1 : Int32))), .val (.ref b11), .val (.int (1 : Int32)), .val (.int (1 : Int32)), .val (.int (1 : Int32)), .val (.ref x202), .unset, .unset] [(.ref b205)])) _
            refine S.astore X.here hx (hb hby at_232) rfl #[.val (.int p0), .val (.long p1), .second, .val (.int (p0 &&& (3 : Int32))), .val (.int ((((p0.toUInt32 >>> ((2 : Int32) &&& 31).toUInt32).toInt32) &&& (1 : Int32)) + (1 : Int32))), .val (.int ((((p0.toUInt32 >>> ((3 : Int32) &&& 31).toUInt32).toInt32) &&& (1 : Int32)) + (1 : Int32))), .val (.int ((((p0.toUInt32 >>> ((4 : Int32) &&& 31).toUInt32).toInt32) &&& (1 : Int32)) + (1 : Int32))), .val (.ref b11), .val (.int (1 : Int32)), .val (.int (1 : Int32)), .val (.int (1 : Int32)), .val (.ref x202), .val (.ref b205), .unset] rfl ?_
            refine S.goto X.here hx 263 (hb hby at_234) (by decide) (by decide) ?_
            exact k)
        have pp208 := own_pp_c (own_ch p1 (0 : Int32)) (own_ch_ok _ _).2
        have F209 := F201.keep K202 all0
        have F210 := F209.ext E205
        have F211 := S202.ext E205
        exact ptT l Z a0 hw hE Bd hml p0 (p0 &&& (3 : Int32)) ((((p0.toUInt32 >>> ((2 : Int32) &&& 31).toUInt32).toInt32) &&& (1 : Int32)) + (1 : Int32)) ((((p0.toUInt32 >>> ((3 : Int32) &&& 31).toUInt32).toInt32) &&& (1 : Int32)) + (1 : Int32)) ((((p0.toUInt32 >>> ((4 : Int32) &&& 31).toUInt32).toInt32) &&& (1 : Int32)) + (1 : Int32)) (1 : Int32) (1 : Int32) (1 : Int32) p1 b11 x202 b205 [(own_ch p1 (0 : Int32))] [(47 : Int32)] h0 n0 Z0 (w207.more (k := 16) (n := 160) (by decide) (by decide)) K206 (by omega) hG F210 (F211.more (by omega)) (S205.more (by omega)) pp208.1 pp208.2.1 pp208.2.2.1 pp208.2.2.2
      · have w212 := w197.pure (mkF m 111 #[.val (.int p0), .val (.long p1), .second, .val (.int (p0 &&& (3 : Int32))), .val (.int ((((p0.toUInt32 >>> ((2 : Int32) &&& 31).toUInt32).toInt32) &&& (1 : Int32)) + (1 : Int32))), .val (.int ((((p0.toUInt32 >>> ((3 : Int32) &&& 31).toUInt32).toInt32) &&& (1 : Int32)) + (1 : Int32))), .val (.int ((((p0.toUInt32 >>> ((4 : Int32) &&& 31).toUInt32).toInt32) &&& (1 : Int32)) + (1 : Int32))), .val (.ref b11), .val (.int (1 : Int32)), .val (.int (1 : Int32)), .unset, .unset, .unset, .unset] [(.int (47 : Int32)), (.int (1 : Int32)), (.ref b11)]) (fun X eT hZ hown k => by
            show Steps _ _ _ (State.setTop _ (mkF m 102 #[.val (.int p0), .val (.long p1), .second, .val (.int (p0 &&& (3 : Int32))), .val (.int ((((p0.toUInt32 >>> ((2 : Int32) &&& 31).toUInt32).toInt32) &&& (1 : Int32)) + (1 : Int32))), .val (.int ((((p0.toUInt32 >>> ((3 : Int32) &&& 31).toUInt32).toInt32) &&& (1 : Int32)) + (1 : Int32))), .val (.int ((((p0.toUInt32 >>> ((4 : Int32) &&& 31).toUInt32).toInt32) &&& (1 : Int32)) + (1 : Int32))), .val (.ref b11), .val (.int (1 : Int32)), .val (.int (1 : Int32)), .unset, .unset, .unset, .unset] [(.int (2 : Int32)), (.int (p0 &&& (3 : Int32)))])) _
            refine S.icmpNo X.here hx (hb hby at_102) (flt hc198).1 ?_
            refine S.aload X.here hx (hb hby at_105) rfl rfl ?_
            refine S.iload X.here hx (hb hby at_107) rfl ?_
            refine S.bipush X.here hx (47 : Int32) (hb hby at_109) rfl ?_
            exact k)
        obtain ⟨h213, W213, z213, V213, w213⟩ := w212.stC hx U15 1 rfl (Nat.le_of_ble_eq_true rfl) ⟨by decide, by decide⟩ rfl rfl (hb hby at_111) (by omega) (mkF m 112 #[.val (.int p0), .val (.long p1), .second, .val (.int (p0 &&& (3 : Int32))), .val (.int ((((p0.toUInt32 >>> ((2 : Int32) &&& 31).toUInt32).toInt32) &&& (1 : Int32)) + (1 : Int32))), .val (.int ((((p0.toUInt32 >>> ((3 : Int32) &&& 31).toUInt32).toInt32) &&& (1 : Int32)) + (1 : Int32))), .val (.int ((((p0.toUInt32 >>> ((4 : Int32) &&& 31).toUInt32).toInt32) &&& (1 : Int32)) + (1 : Int32))), .val (.ref b11), .val (.int (1 : Int32)), .val (.int (1 : Int32)), .unset, .unset, .unset, .unset] []) rfl
        rw [show nar .char (47 : Int32) = (47 : Int32) from rfl] at V213
        have U213 : Arv Z h213 b11 k11 .char (8 : Int32) [(.int (own_ch p1 (0 : Int32))), (.int (47 : Int32)), (.int (0 : Int32)), (.int (0 : Int32)), (.int (0 : Int32)), (.int (0 : Int32)), (.int (0 : Int32)), (.int (0 : Int32))] (.int (0 : Int32)) := V213
        have K214 : Keep h0 h213 [] := K16.wr W213 (Or.inr (by omega))
        have w215 := w213.pure (mkF m 124 #[.val (.int p0), .val (.long p1), .second, .val (.int (p0 &&& (3 : Int32))), .val (.int ((((p0.toUInt32 >>> ((2 : Int32) &&& 31).toUInt32).toInt32) &&& (1 : Int32)) + (1 : Int32))), .val (.int ((((p0.toUInt32 >>> ((3 : Int32) &&& 31).toUInt32).toInt32) &&& (1 : Int32)) + (1 : Int32))), .val (.int ((((p0.toUInt32 >>> ((4 : Int32) &&& 31).toUInt32).toInt32) &&& (1 : Int32)) + (1 : Int32))), .val (.ref b11), .val (.int (2 : Int32)), .val (.int (1 : Int32)), .unset, .unset, .unset, .unset] [(.int (2 : Int32)), (.long p1), (.int (2 : Int32)), (.ref b11)]) (fun X eT hZ hown k => by
            show Steps _ _ _ (State.setTop _ (mkF m 112 #[.val (.int p0), .val (.long p1), .second, .val (.int (p0 &&& (3 : Int32))), .val (.int ((((p0.toUInt32 >>> ((2 : Int32) &&& 31).toUInt32).toInt32) &&& (1 : Int32)) + (1 : Int32))), .val (.int ((((p0.toUInt32 >>> ((3 : Int32) &&& 31).toUInt32).toInt32) &&& (1 : Int32)) + (1 : Int32))), .val (.int ((((p0.toUInt32 >>> ((4 : Int32) &&& 31).toUInt32).toInt32) &&& (1 : Int32)) + (1 : Int32))), .val (.ref b11), .val (.int (1 : Int32)), .val (.int (1 : Int32)), .unset, .unset, .unset, .unset] [])) _
            refine S.iload X.here hx (hb hby at_112) rfl ?_
            refine S.iconst X.here hx (1 : Int32) (hb hby at_114) rfl ?_
            refine S.iaddV X.here hx (2 : Int32) (hb hby at_115) rfl ?_
            refine S.istore X.here hx (hb hby at_116) #[.val (.int p0), .val (.long p1), .second, .val (.int (p0 &&& (3 : Int32))), .val (.int ((((p0.toUInt32 >>> ((2 : Int32) &&& 31).toUInt32).toInt32) &&& (1 : Int32)) + (1 : Int32))), .val (.int ((((p0.toUInt32 >>> ((3 : Int32) &&& 31).toUInt32).toInt32) &&& (1 : Int32)) + (1 : Int32))), .val (.int ((((p0.toUInt32 >>> ((4 : Int32) &&& 31).toUInt32).toInt32) &&& (1 : Int32)) + (1 : Int32))), .val (.ref b11), .val (.int (2 : Int32)), .val (.int (1 : Int32)), .unset, .unset, .unset, .unset] rfl ?_
            refine S.aload X.here hx (hb hby at_118) rfl rfl ?_
            refine S.iload X.here hx (hb hby at_120) rfl ?_
            refine S.lloadN X.here hx (hb hby at_122) rfl ?_
            refine S.iconst X.here hx (2 : Int32) (hb hby at_123) rfl ?_
            exact k)
        obtain ⟨v216, h216, Q216, K216, z216, w216⟩ := w215.callS hx (y := (⟨"com/example/bylaw/bylaw/TreePathParentPinLaw", "ch", "(JI)C"⟩ : MethodName)) (W := 2) (hw _ (List.mem_of_getElem? (i := 19) rfl)) (hw _ (List.mem_of_getElem? (i := 20) rfl)) (hw _ (List.mem_of_getElem? (i := 21) rfl)) (hw _ (List.mem_of_getElem? (i := 22) rfl)) (by decide) ((rmch l Z a0 hw p1 (2 : Int32) h213 n0 (by omega)).pay w215.hZ (hw _ (List.mem_of_getElem? (i := 22) rfl)) (hw _ (List.mem_of_getElem? (i := 21) rfl)) (by decide) (by decide)) rfl (by rw [hml]; rfl) [(.int (2 : Int32)), (.ref b11)] (lenOf pd_16 rfl) rfl (by show 2 * 0 + _ ≤ _; exact Nat.le_of_eq rfl) (hb hby at_124) (by decide) (by decide) (fun _ q => nomatch q) (fun rv => (mkF m 127 #[.val (.int p0), .val (.long p1), .second, .val (.int (p0 &&& (3 : Int32))), .val (.int ((((p0.toUInt32 >>> ((2 : Int32) &&& 31).toUInt32).toInt32) &&& (1 : Int32)) + (1 : Int32))), .val (.int ((((p0.toUInt32 >>> ((3 : Int32) &&& 31).toUInt32).toInt32) &&& (1 : Int32)) + (1 : Int32))), .val (.int ((((p0.toUInt32 >>> ((4 : Int32) &&& 31).toUInt32).toInt32) &&& (1 : Int32)) + (1 : Int32))), .val (.ref b11), .val (.int (2 : Int32)), .val (.int (1 : Int32)), .unset, .unset, .unset, .unset] (rv.toList ++ [(.int (2 : Int32)), (.ref b11)]))) (fun _ => rfl)
        obtain ⟨rfl, rfl⟩ := Q216
        obtain ⟨h217, W217, z217, V217, w217⟩ := w216.stC hx U213 2 rfl (Nat.le_of_ble_eq_true rfl) ⟨by decide, by decide⟩ rfl rfl (hb hby at_127) (by omega) (mkF m 128 #[.val (.int p0), .val (.long p1), .second, .val (.int (p0 &&& (3 : Int32))), .val (.int ((((p0.toUInt32 >>> ((2 : Int32) &&& 31).toUInt32).toInt32) &&& (1 : Int32)) + (1 : Int32))), .val (.int ((((p0.toUInt32 >>> ((3 : Int32) &&& 31).toUInt32).toInt32) &&& (1 : Int32)) + (1 : Int32))), .val (.int ((((p0.toUInt32 >>> ((4 : Int32) &&& 31).toUInt32).toInt32) &&& (1 : Int32)) + (1 : Int32))), .val (.ref b11), .val (.int (2 : Int32)), .val (.int (1 : Int32)), .unset, .unset, .unset, .unset] []) rfl
        rw [nar_rng (own_ch_ok _ _).1] at V217
        have U217 : Arv Z h217 b11 k11 .char (8 : Int32) [(.int (own_ch p1 (0 : Int32))), (.int (47 : Int32)), (.int (own_ch p1 (2 : Int32))), (.int (0 : Int32)), (.int (0 : Int32)), (.int (0 : Int32)), (.int (0 : Int32)), (.int (0 : Int32))] (.int (0 : Int32)) := V217
        have K218 : Keep h0 h217 [] := K214.wr W217 (Or.inr (by omega))
        have w219 := w217.pure (mkF m 137 #[.val (.int p0), .val (.long p1), .second, .val (.int (p0 &&& (3 : Int32))), .val (.int ((((p0.toUInt32 >>> ((2 : Int32) &&& 31).toUInt32).toInt32) &&& (1 : Int32)) + (1 : Int32))), .val (.int ((((p0.toUInt32 >>> ((3 : Int32) &&& 31).toUInt32).toInt32) &&& (1 : Int32)) + (1 : Int32))), .val (.int ((((p0.toUInt32 >>> ((4 : Int32) &&& 31).toUInt32).toInt32) &&& (1 : Int32)) + (1 : Int32))), .val (.ref b11), .val (.int (3 : Int32)), .val (.int (1 : Int32)), .unset, .unset, .unset, .unset] [(.int (2 : Int32)), (.int ((((p0.toUInt32 >>> ((3 : Int32) &&& 31).toUInt32).toInt32) &&& (1 : Int32)) + (1 : Int32)))]) (fun X eT hZ hown k => by
            show Steps _ _ _ (State.setTop _ (mkF m 128 #[.val (.int p0), .val (.long p1), .second, .val (.int (p0 &&& (3 : Int32))), .val (.int ((((p0.toUInt32 >>> ((2 : Int32) &&& 31).toUInt32).toInt32) &&& (1 : Int32)) + (1 : Int32))), .val (.int ((((p0.toUInt32 >>> ((3 : Int32) &&& 31).toUInt32).toInt32) &&& (1 : Int32)) + (1 : Int32))), .val (.int ((((p0.toUInt32 >>> ((4 : Int32) &&& 31).toUInt32).toInt32) &&& (1 : Int32)) + (1 : Int32))), .val (.ref b11), .val (.int (2 : Int32)), .val (.int (1 : Int32)), .unset, .unset, .unset, .unset] [])) _
            refine S.iload X.here hx (hb hby at_128) rfl ?_
            refine S.iconst X.here hx (1 : Int32) (hb hby at_130) rfl ?_
            refine S.iaddV X.here hx (3 : Int32) (hb hby at_131) rfl ?_
            refine S.istore X.here hx (hb hby at_132) #[.val (.int p0), .val (.long p1), .second, .val (.int (p0 &&& (3 : Int32))), .val (.int ((((p0.toUInt32 >>> ((2 : Int32) &&& 31).toUInt32).toInt32) &&& (1 : Int32)) + (1 : Int32))), .val (.int ((((p0.toUInt32 >>> ((3 : Int32) &&& 31).toUInt32).toInt32) &&& (1 : Int32)) + (1 : Int32))), .val (.int ((((p0.toUInt32 >>> ((4 : Int32) &&& 31).toUInt32).toInt32) &&& (1 : Int32)) + (1 : Int32))), .val (.ref b11), .val (.int (3 : Int32)), .val (.int (1 : Int32)), .unset, .unset, .unset, .unset] rfl ?_
            refine S.iload X.here hx (hb hby at_134) rfl ?_
            refine S.iconst X.here hx (2 : Int32) (hb hby at_136) rfl ?_
            exact k)
        by_cases hc220 : ((((p0.toUInt32 >>> ((3 : Int32) &&& 31).toUInt32).toInt32) &&& (1 : Int32)) + (1 : Int32)) = (2 : Int32)
        · have w221 := w219.pure (mkF m 146 #[.val (.int p0), .val (.long p1), .second, .val (.int (p0 &&& (3 : Int32))), .val (.int ((((p0.toUInt32 >>> ((2 : Int32) &&& 31).toUInt32).toInt32) &&& (1 : Int32)) + (1 : Int32))), .val (.int ((((p0.toUInt32 >>> ((3 : Int32) &&& 31).toUInt32).toInt32) &&& (1 : Int32)) + (1 : Int32))), .val (.int ((((p0.toUInt32 >>> ((4 : Int32) &&& 31).toUInt32).toInt32) &&& (1 : Int32)) + (1 : Int32))), .val (.ref b11), .val (.int (3 : Int32)), .val (.int (1 : Int32)), .unset, .unset, .unset, .unset] [(.int (3 : Int32)), (.long p1), (.int (3 : Int32)), (.ref b11)]) (fun X eT hZ hown k => by
              show Steps _ _ _ (State.setTop _ (mkF m 137 #[.val (.int p0), .val (.long p1), .second, .val (.int (p0 &&& (3 : Int32))), .val (.int ((((p0.toUInt32 >>> ((2 : Int32) &&& 31).toUInt32).toInt32) &&& (1 : Int32)) + (1 : Int32))), .val (.int ((((p0.toUInt32 >>> ((3 : Int32) &&& 31).toUInt32).toInt32) &&& (1 : Int32)) + (1 : Int32))), .val (.int ((((p0.toUInt32 >>> ((4 : Int32) &&& 31).toUInt32).toInt32) &&& (1 : Int32)) + (1 : Int32))), .val (.ref b11), .val (.int (3 : Int32)), .val (.int (1 : Int32)), .unset, .unset, .unset, .unset] [(.int (2 : Int32)), (.int ((((p0.toUInt32 >>> ((3 : Int32) &&& 31).toUInt32).toInt32) &&& (1 : Int32)) + (1 : Int32)))])) _
              refine S.icmpNo X.here hx (hb hby at_137) (teq hc220).2 ?_
              refine S.aload X.here hx (hb hby at_140) rfl rfl ?_
              refine S.iload X.here hx (hb hby at_142) rfl ?_
              refine S.lloadN X.here hx (hb hby at_144) rfl ?_
              refine S.iconst X.here hx (3 : Int32) (hb hby at_145) rfl ?_
              exact k)
          obtain ⟨v222, h222, Q222, K222, z222, w222⟩ := w221.callS hx (y := (⟨"com/example/bylaw/bylaw/TreePathParentPinLaw", "ch", "(JI)C"⟩ : MethodName)) (W := 2) (hw _ (List.mem_of_getElem? (i := 19) rfl)) (hw _ (List.mem_of_getElem? (i := 20) rfl)) (hw _ (List.mem_of_getElem? (i := 21) rfl)) (hw _ (List.mem_of_getElem? (i := 22) rfl)) (by decide) ((rmch l Z a0 hw p1 (3 : Int32) h217 n0 (by omega)).pay w221.hZ (hw _ (List.mem_of_getElem? (i := 22) rfl)) (hw _ (List.mem_of_getElem? (i := 21) rfl)) (by decide) (by decide)) rfl (by rw [hml]; rfl) [(.int (3 : Int32)), (.ref b11)] (lenOf pd_16 rfl) rfl (by show 2 * 0 + _ ≤ _; exact Nat.le_of_eq rfl) (hb hby at_146) (by decide) (by decide) (fun _ q => nomatch q) (fun rv => (mkF m 149 #[.val (.int p0), .val (.long p1), .second, .val (.int (p0 &&& (3 : Int32))), .val (.int ((((p0.toUInt32 >>> ((2 : Int32) &&& 31).toUInt32).toInt32) &&& (1 : Int32)) + (1 : Int32))), .val (.int ((((p0.toUInt32 >>> ((3 : Int32) &&& 31).toUInt32).toInt32) &&& (1 : Int32)) + (1 : Int32))), .val (.int ((((p0.toUInt32 >>> ((4 : Int32) &&& 31).toUInt32).toInt32) &&& (1 : Int32)) + (1 : Int32))), .val (.ref b11), .val (.int (3 : Int32)), .val (.int (1 : Int32)), .unset, .unset, .unset, .unset] (rv.toList ++ [(.int (3 : Int32)), (.ref b11)]))) (fun _ => rfl)
          obtain ⟨rfl, rfl⟩ := Q222
          obtain ⟨h223, W223, z223, V223, w223⟩ := w222.stC hx U217 3 rfl (Nat.le_of_ble_eq_true rfl) ⟨by decide, by decide⟩ rfl rfl (hb hby at_149) (by omega) (mkF m 150 #[.val (.int p0), .val (.long p1), .second, .val (.int (p0 &&& (3 : Int32))), .val (.int ((((p0.toUInt32 >>> ((2 : Int32) &&& 31).toUInt32).toInt32) &&& (1 : Int32)) + (1 : Int32))), .val (.int ((((p0.toUInt32 >>> ((3 : Int32) &&& 31).toUInt32).toInt32) &&& (1 : Int32)) + (1 : Int32))), .val (.int ((((p0.toUInt32 >>> ((4 : Int32) &&& 31).toUInt32).toInt32) &&& (1 : Int32)) + (1 : Int32))), .val (.ref b11), .val (.int (3 : Int32)), .val (.int (1 : Int32)), .unset, .unset, .unset, .unset] []) rfl
          rw [nar_rng (own_ch_ok _ _).1] at V223
          have U223 : Arv Z h223 b11 k11 .char (8 : Int32) [(.int (own_ch p1 (0 : Int32))), (.int (47 : Int32)), (.int (own_ch p1 (2 : Int32))), (.int (own_ch p1 (3 : Int32))), (.int (0 : Int32)), (.int (0 : Int32)), (.int (0 : Int32)), (.int (0 : Int32))] (.int (0 : Int32)) := V223
          have K224 : Keep h0 h223 [] := K218.wr W223 (Or.inr (by omega))
          have w225 := w223.pure (mkF m 162 #[.val (.int p0), .val (.long p1), .second, .val (.int (p0 &&& (3 : Int32))), .val (.int ((((p0.toUInt32 >>> ((2 : Int32) &&& 31).toUInt32).toInt32) &&& (1 : Int32)) + (1 : Int32))), .val (.int ((((p0.toUInt32 >>> ((3 : Int32) &&& 31).toUInt32).toInt32) &&& (1 : Int32)) + (1 : Int32))), .val (.int ((((p0.toUInt32 >>> ((4 : Int32) &&& 31).toUInt32).toInt32) &&& (1 : Int32)) + (1 : Int32))), .val (.ref b11), .val (.int (4 : Int32)), .val (.int (1 : Int32)), .val (.int (4 : Int32)), .unset, .unset, .unset] [(.int (3 : Int32)), (.int (p0 &&& (3 : Int32)))]) (fun X eT hZ hown k => by
              show Steps _ _ _ (State.setTop _ (mkF m 150 #[.val (.int p0), .val (.long p1), .second, .val (.int (p0 &&& (3 : Int32))), .val (.int ((((p0.toUInt32 >>> ((2 : Int32) &&& 31).toUInt32).toInt32) &&& (1 : Int32)) + (1 : Int32))), .val (.int ((((p0.toUInt32 >>> ((3 : Int32) &&& 31).toUInt32).toInt32) &&& (1 : Int32)) + (1 : Int32))), .val (.int ((((p0.toUInt32 >>> ((4 : Int32) &&& 31).toUInt32).toInt32) &&& (1 : Int32)) + (1 : Int32))), .val (.ref b11), .val (.int (3 : Int32)), .val (.int (1 : Int32)), .unset, .unset, .unset, .unset] [])) _
              refine S.iload X.here hx (hb hby at_150) rfl ?_
              refine S.iconst X.here hx (1 : Int32) (hb hby at_152) rfl ?_
              refine S.iaddV X.here hx (4 : Int32) (hb hby at_153) rfl ?_
              refine S.istore X.here hx (hb hby at_154) #[.val (.int p0), .val (.long p1), .second, .val (.int (p0 &&& (3 : Int32))), .val (.int ((((p0.toUInt32 >>> ((2 : Int32) &&& 31).toUInt32).toInt32) &&& (1 : Int32)) + (1 : Int32))), .val (.int ((((p0.toUInt32 >>> ((3 : Int32) &&& 31).toUInt32).toInt32) &&& (1 : Int32)) + (1 : Int32))), .val (.int ((((p0.toUInt32 >>> ((4 : Int32) &&& 31).toUInt32).toInt32) &&& (1 : Int32)) + (1 : Int32))), .val (.ref b11), .val (.int (4 : Int32)), .val (.int (1 : Int32)), .unset, .unset, .unset, .unset] rfl ?_
              refine S.iload X.here hx (hb hby at_156) rfl ?_
              refine S.istore X.here hx (hb hby at_158) #[.val (.int p0), .val (.long p1), .second, .val (.int (p0 &&& (3 : Int32))), .val (.int ((((p0.toUInt32 >>> ((2 : Int32) &&& 31).toUInt32).toInt32) &&& (1 : Int32)) + (1 : Int32))), .val (.int ((((p0.toUInt32 >>> ((3 : Int32) &&& 31).toUInt32).toInt32) &&& (1 : Int32)) + (1 : Int32))), .val (.int ((((p0.toUInt32 >>> ((4 : Int32) &&& 31).toUInt32).toInt32) &&& (1 : Int32)) + (1 : Int32))), .val (.ref b11), .val (.int (4 : Int32)), .val (.int (1 : Int32)), .val (.int (4 : Int32)), .unset, .unset, .unset] rfl ?_
              refine S.iloadN X.here hx (hb hby at_160) rfl ?_
              refine S.iconst X.here hx (3 : Int32) (hb hby at_161) rfl ?_
              exact k)
          by_cases hc226 : (p0 &&& (3 : Int32)) < (3 : Int32)
          · have w227 := w225.pure (mkF m 220 #[.val (.int p0), .val (.long p1), .second, .val (.int (p0 &&& (3 : Int32))), .val (.int ((((p0.toUInt32 >>> ((2 : Int32) &&& 31).toUInt32).toInt32) &&& (1 : Int32)) + (1 : Int32))), .val (.int ((((p0.toUInt32 >>> ((3 : Int32) &&& 31).toUInt32).toInt32) &&& (1 : Int32)) + (1 : Int32))), .val (.int ((((p0.toUInt32 >>> ((4 : Int32) &&& 31).toUInt32).toInt32) &&& (1 : Int32)) + (1 : Int32))), .val (.ref b11), .val (.int (4 : Int32)), .val (.int (1 : Int32)), .val (.int (4 : Int32)), .unset, .unset, .unset] [(.int (4 : Int32)), (.ref b11)]) (fun X eT hZ hown k => by
                show Steps _ _ _ (State.setTop _ (mkF m 162 #[.val (.int p0), .val (.long p1), .second, .val (.int (p0 &&& (3 : Int32))), .val (.int ((((p0.toUInt32 >>> ((2 : Int32) &&& 31).toUInt32).toInt32) &&& (1 : Int32)) + (1 : Int32))), .val (.int ((((p0.toUInt32 >>> ((3 : Int32) &&& 31).toUInt32).toInt32) &&& (1 : Int32)) + (1 : Int32))), .val (.int ((((p0.toUInt32 >>> ((4 : Int32) &&& 31).toUInt32).toInt32) &&& (1 : Int32)) + (1 : Int32))), .val (.ref b11), .val (.int (4 : Int32)), .val (.int (1 : Int32)), .val (.int (4 : Int32)), .unset, .unset, .unset] [(.int (3 : Int32)), (.int (p0 &&& (3 : Int32)))])) _
                refine S.icmpYes X.here hx 216 (hb hby at_162) (tlt hc226).1 (by decide) (by decide) ?_
                refine S.aload X.here hx (hb hby at_216) rfl rfl ?_
                refine S.iload X.here hx (hb hby at_218) rfl ?_
                exact k)
            have F228 := X0.ext E11
            have F229 := F228.wr W15 (by omega)
            have F230 := F229.wr W213 (by omega)
            have F231 := F230.wr W217 (by omega)
            have F232 := F231.wr W223 (by omega)
            obtain ⟨v233, h233, Q233, K233, z233, w233⟩ := w227.callS hx (y := (⟨"com/example/bylaw/bylaw/TreePathParentPinLaw", "str", "([CI)Ljava/lang/String;"⟩ : MethodName)) (W := 0) (hw _ (List.mem_of_getElem? (i := 24) rfl)) (hw _ (List.mem_of_getElem? (i := 25) rfl)) (hw _ (List.mem_of_getElem? (i := 21) rfl)) (hw _ (List.mem_of_getElem? (i := 26) rfl)) (by decide) ((rmt4 l Z a0 hw b11 k11 (own_ch p1 (0 : Int32)) (47 : Int32) (own_ch p1 (2 : Int32)) (own_ch p1 (3 : Int32)) (0 : Int32) (0 : Int32) (0 : Int32) (0 : Int32) h223 n0 (by omega) hG F232 U223 (own_ch_ok _ _).1 (by decide) (own_ch_ok _ _).1 (own_ch_ok _ _).1 (by decide) (by decide) (by decide) (by decide)).pay w227.hZ (hw _ (List.mem_of_getElem? (i := 26) rfl)) (hw _ (List.mem_of_getElem? (i := 21) rfl)) (by decide) (by decide)) rfl (by rw [hml]; rfl) [] (lenOf pd_17 rfl) rfl (by show 2 * 0 + _ ≤ _; exact Nat.le_of_eq rfl) (hb hby at_220) (by decide) (by decide) (fun _ q => nomatch q) (fun rv => (mkF m 223 #[.val (.int p0), .val (.long p1), .second, .val (.int (p0 &&& (3 : Int32))), .val (.int ((((p0.toUInt32 >>> ((2 : Int32) &&& 31).toUInt32).toInt32) &&& (1 : Int32)) + (1 : Int32))), .val (.int ((((p0.toUInt32 >>> ((3 : Int32) &&& 31).toUInt32).toInt32) &&& (1 : Int32)) + (1 : Int32))), .val (.int ((((p0.toUInt32 >>> ((4 : Int32) &&& 31).toUInt32).toInt32) &&& (1 : Int32)) + (1 : Int32))), .val (.ref b11), .val (.int (4 : Int32)), .val (.int (1 : Int32)), .val (.int (4 : Int32)), .unset, .unset, .unset] (rv.toList ++ []))) (fun _ => rfl)
            obtain ⟨x233, rfl, gx233, S233⟩ := Q233
            have K234 : Keep h0 h233 [] := K224.trans K233 (fun _ q => nomatch q)
            have lt_x233 := S233.lt
            have w235 := w233.pure (mkF m 246 #[.val (.int p0), .val (.long p1), .second, .val (.int (p0 &&& (3 : Int32))), .val (.int ((((p0.toUInt32 >>> ((2 : Int32) &&& 31).toUInt32).toInt32) &&& (1 : Int32)) + (1 : Int32))), .val (.int ((((p0.toUInt32 >>> ((3 : Int32) &&& 31).toUInt32).toInt32) &&& (1 : Int32)) + (1 : Int32))), .val (.int ((((p0.toUInt32 >>> ((4 : Int32) &&& 31).toUInt32).toInt32) &&& (1 : Int32)) + (1 : Int32))), .val (.ref b11), .val (.int (4 : Int32)), .val (.int (1 : Int32)), .val (.int (4 : Int32)), .val (.ref x233), .unset, .unset] [(.int (1 : Int32)), (.ref b11)]) (fun X eT hZ hown k => by
                show Steps _ _ _ (State.setTop _ (mkF m 223 #[.val (.int p0), .val (.long p1), .second, .val (.int (p0 &&& (3 : Int32))), .val (.int ((((p0.toUInt32 >>> ((2 : Int32) &&& 31).toUInt32).toInt32) &&& (1 : Int32)) + (1 : Int32))), .val (.int ((((p0.toUInt32 >>> ((3 : Int32) &&& 31).toUInt32).toInt32) &&& (1 : Int32)) + (1 : Int32))), .val (.int ((((p0.toUInt32 >>> ((4 : Int32) &&& 31).toUInt32).toInt32) &&& (1 : Int32)) + (1 : Int32))), .val (.ref b11), .val (.int (4 : Int32)), .val (.int (1 : Int32)), .val (.int (4 : Int32)), .unset, .unset, .unset] [(.ref x233)])) _
                refine S.astore X.here hx (hb hby at_223) rfl #[.val (.int p0), .val (.long p1), .second, .val (.int (p0 &&& (3 : Int32))), .val (.int ((((p0.toUInt32 >>> ((2 : Int32) &&& 31).toUInt32).toInt32) &&& (1 : Int32)) + (1 : Int32))), .val (.int ((((p0.toUInt32 >>> ((3 : Int32) &&& 31).toUInt32).toInt32) &&& (1 : Int32)) + (1 : Int32))), .val (.int ((((p0.toUInt32 >>> ((4 : Int32) &&& 31).toUInt32).toInt32) &&& (1 : Int32)) + (1 : Int32))), .val (.ref b11), .val (.int (4 : Int32)), .val (.int (1 : Int32)), .val (.int (4 : Int32)), .val (.ref x233), .unset, .unset] rfl ?_
                refine S.iloadN X.here hx (hb hby at_225) rfl ?_
                refine S.iconst X.here hx (1 : Int32) (hb hby at_226) rfl ?_
                refine S.icmpYes X.here hx 237 (hb hby at_227) (feq (own_sh.2.2.1 hc198)).2 (by decide) (by decide) ?_
                refine S.iloadN X.here hx (hb hby at_237) rfl ?_
                refine S.iconst X.here hx (2 : Int32) (hb hby at_238) rfl ?_
                refine S.icmpNo X.here hx (hb hby at_239) (teq (own_sh.2.2.2.1 hc198 hc226)).2 ?_
                refine S.aload X.here hx (hb hby at_242) rfl rfl ?_
                refine S.iload X.here hx (hb hby at_244) rfl ?_
                exact k)
            have F236 := F232.keep K233 all0
            have F237 := U223.keep K233 nin0
            obtain ⟨v238, h238, Q238, K238, z238, w238⟩ := w235.callS hx (y := (⟨"com/example/bylaw/bylaw/TreePathParentPinLaw", "str", "([CI)Ljava/lang/String;"⟩ : MethodName)) (W := 0) (hw _ (List.mem_of_getElem? (i := 24) rfl)) (hw _ (List.mem_of_getElem? (i := 25) rfl)) (hw _ (List.mem_of_getElem? (i := 21) rfl)) (hw _ (List.mem_of_getElem? (i := 26) rfl)) (by decide) ((rmt1 l Z a0 hw b11 k11 (own_ch p1 (0 : Int32)) (47 : Int32) (own_ch p1 (2 : Int32)) (own_ch p1 (3 : Int32)) (0 : Int32) (0 : Int32) (0 : Int32) (0 : Int32) h233 n0 (by omega) hG F236 F237 (own_ch_ok _ _).1 (by decide) (own_ch_ok _ _).1 (own_ch_ok _ _).1 (by decide) (by decide) (by decide) (by decide)).pay w235.hZ (hw _ (List.mem_of_getElem? (i := 26) rfl)) (hw _ (List.mem_of_getElem? (i := 21) rfl)) (by decide) (by decide)) rfl (by rw [hml]; rfl) [] (lenOf pd_17 rfl) rfl (by show 2 * 0 + _ ≤ _; exact Nat.le_of_eq rfl) (hb hby at_246) (by decide) (by decide) (fun _ q => nomatch q) (fun rv => (mkF m 249 #[.val (.int p0), .val (.long p1), .second, .val (.int (p0 &&& (3 : Int32))), .val (.int ((((p0.toUInt32 >>> ((2 : Int32) &&& 31).toUInt32).toInt32) &&& (1 : Int32)) + (1 : Int32))), .val (.int ((((p0.toUInt32 >>> ((3 : Int32) &&& 31).toUInt32).toInt32) &&& (1 : Int32)) + (1 : Int32))), .val (.int ((((p0.toUInt32 >>> ((4 : Int32) &&& 31).toUInt32).toInt32) &&& (1 : Int32)) + (1 : Int32))), .val (.ref b11), .val (.int (4 : Int32)), .val (.int (1 : Int32)), .val (.int (4 : Int32)), .val (.ref x233), .unset, .unset] (rv.toList ++ []))) (fun _ => rfl)
            obtain ⟨x238, rfl, gx238, S238⟩ := Q238
            have K239 : Keep h0 h238 [] := K234.trans K238 (fun _ q => nomatch q)
            have lt_x238 := S238.lt
            have w240 := w238.pure (mkF m 263 #[.val (.int p0), .val (.long p1), .second, .val (.int (p0 &&& (3 : Int32))), .val (.int ((((p0.toUInt32 >>> ((2 : Int32) &&& 31).toUInt32).toInt32) &&& (1 : Int32)) + (1 : Int32))), .val (.int ((((p0.toUInt32 >>> ((3 : Int32) &&& 31).toUInt32).toInt32) &&& (1 : Int32)) + (1 : Int32))), .val (.int ((((p0.toUInt32 >>> ((4 : Int32) &&& 31).toUInt32).toInt32) &&& (1 : Int32)) + (1 : Int32))), .val (.ref b11), .val (.int (4 : Int32)), .val (.int (1 : Int32)), .val (.int (4 : Int32)), .val (.ref x233), .val (.ref x238), .unset] []) (fun X eT hZ hown k => by
                show Steps _ _ _ (State.setTop _ (mkF m 249 #[.val (.int p0), .val (.long p1), .second, .val (.int (p0 &&& (3 : Int32))), .val (.int ((((p0.toUInt32 >>> ((2 : Int32) &&& 31).toUInt32).toInt32) &&& (1 : Int32)) + (1 : Int32))), .val (.int ((((p0.toUInt32 >>> ((3 : Int32) &&& 31).toUInt32).toInt32) &&& (1 : Int32)) + (1 : Int32))), .val (.int ((((p0.toUInt32 >>> ((4 : Int32) &&& 31).toUInt32).toInt32) &&& (1 : Int32)) + (1 : Int32))), .val (.ref b11), .val (.int (4 : Int32)), .val (.int (1 : Int32)), .val (.int (4 : Int32)), .val (.ref x233), .unset, .unset] [(.ref x238)])) _
                refine S.astore X.here hx (hb hby at_249) rfl #[.val (.int p0), .val (.long p1), .second, .val (.int (p0 &&& (3 : Int32))), .val (.int ((((p0.toUInt32 >>> ((2 : Int32) &&& 31).toUInt32).toInt32) &&& (1 : Int32)) + (1 : Int32))), .val (.int ((((p0.toUInt32 >>> ((3 : Int32) &&& 31).toUInt32).toInt32) &&& (1 : Int32)) + (1 : Int32))), .val (.int ((((p0.toUInt32 >>> ((4 : Int32) &&& 31).toUInt32).toInt32) &&& (1 : Int32)) + (1 : Int32))), .val (.ref b11), .val (.int (4 : Int32)), .val (.int (1 : Int32)), .val (.int (4 : Int32)), .val (.ref x233), .val (.ref x238), .unset] rfl ?_
                refine S.goto X.here hx 263 (hb hby at_251) (by decide) (by decide) ?_
                exact k)
            have pp241 := own_pp_cscc (own_ch p1 (0 : Int32)) (own_ch p1 (2 : Int32)) (own_ch p1 (3 : Int32)) (own_ch_ok _ _).2 (own_ch_ok _ _).2 (own_ch_ok _ _).2
            have F242 := F236.keep K238 all0
            have F243 := S233.keep K238 all0
            exact ptT l Z a0 hw hE Bd hml p0 (p0 &&& (3 : Int32)) ((((p0.toUInt32 >>> ((2 : Int32) &&& 31).toUInt32).toInt32) &&& (1 : Int32)) + (1 : Int32)) ((((p0.toUInt32 >>> ((3 : Int32) &&& 31).toUInt32).toInt32) &&& (1 : Int32)) + (1 : Int32)) ((((p0.toUInt32 >>> ((4 : Int32) &&& 31).toUInt32).toInt32) &&& (1 : Int32)) + (1 : Int32)) (4 : Int32) (1 : Int32) (4 : Int32) p1 b11 x233 x238 [(own_ch p1 (0 : Int32)), (47 : Int32), (own_ch p1 (2 : Int32)), (own_ch p1 (3 : Int32))] [(own_ch p1 (0 : Int32))] h0 n0 Z0 (w240.more (k := 16) (n := 160) (by decide) (by decide)) K239 (by omega) hG F242 (F243.more (by omega)) (S238.more (by omega)) pp241.1 pp241.2.1 pp241.2.2.1 pp241.2.2.2
          · have w244 := w225.pure (mkF m 171 #[.val (.int p0), .val (.long p1), .second, .val (.int (p0 &&& (3 : Int32))), .val (.int ((((p0.toUInt32 >>> ((2 : Int32) &&& 31).toUInt32).toInt32) &&& (1 : Int32)) + (1 : Int32))), .val (.int ((((p0.toUInt32 >>> ((3 : Int32) &&& 31).toUInt32).toInt32) &&& (1 : Int32)) + (1 : Int32))), .val (.int ((((p0.toUInt32 >>> ((4 : Int32) &&& 31).toUInt32).toInt32) &&& (1 : Int32)) + (1 : Int32))), .val (.ref b11), .val (.int (4 : Int32)), .val (.int (1 : Int32)), .val (.int (4 : Int32)), .unset, .unset, .unset] [(.int (47 : Int32)), (.int (4 : Int32)), (.ref b11)]) (fun X eT hZ hown k => by
                show Steps _ _ _ (State.setTop _ (mkF m 162 #[.val (.int p0), .val (.long p1), .second, .val (.int (p0 &&& (3 : Int32))), .val (.int ((((p0.toUInt32 >>> ((2 : Int32) &&& 31).toUInt32).toInt32) &&& (1 : Int32)) + (1 : Int32))), .val (.int ((((p0.toUInt32 >>> ((3 : Int32) &&& 31).toUInt32).toInt32) &&& (1 : Int32)) + (1 : Int32))), .val (.int ((((p0.toUInt32 >>> ((4 : Int32) &&& 31).toUInt32).toInt32) &&& (1 : Int32)) + (1 : Int32))), .val (.ref b11), .val (.int (4 : Int32)), .val (.int (1 : Int32)), .val (.int (4 : Int32)), .unset, .unset, .unset] [(.int (3 : Int32)), (.int (p0 &&& (3 : Int32)))])) _
                refine S.icmpNo X.here hx (hb hby at_162) (flt hc226).1 ?_
                refine S.aload X.here hx (hb hby at_165) rfl rfl ?_
                refine S.iload X.here hx (hb hby at_167) rfl ?_
                refine S.bipush X.here hx (47 : Int32) (hb hby at_169) rfl ?_
                exact k)
            obtain ⟨h245, W245, z245, V245, w245⟩ := w244.stC hx U223 4 rfl (Nat.le_of_ble_eq_true rfl) ⟨by decide, by decide⟩ rfl rfl (hb hby at_171) (by omega) (mkF m 172 #[.val (.int p0), .val (.long p1), .second, .val (.int (p0 &&& (3 : Int32))), .val (.int ((((p0.toUInt32 >>> ((2 : Int32) &&& 31).toUInt32).toInt32) &&& (1 : Int32)) + (1 : Int32))), .val (.int ((((p0.toUInt32 >>> ((3 : Int32) &&& 31).toUInt32).toInt32) &&& (1 : Int32)) + (1 : Int32))), .val (.int ((((p0.toUInt32 >>> ((4 : Int32) &&& 31).toUInt32).toInt32) &&& (1 : Int32)) + (1 : Int32))), .val (.ref b11), .val (.int (4 : Int32)), .val (.int (1 : Int32)), .val (.int (4 : Int32)), .unset, .unset, .unset] []) rfl
            rw [show nar .char (47 : Int32) = (47 : Int32) from rfl] at V245
            have U245 : Arv Z h245 b11 k11 .char (8 : Int32) [(.int (own_ch p1 (0 : Int32))), (.int (47 : Int32)), (.int (own_ch p1 (2 : Int32))), (.int (own_ch p1 (3 : Int32))), (.int (47 : Int32)), (.int (0 : Int32)), (.int (0 : Int32)), (.int (0 : Int32))] (.int (0 : Int32)) := V245
            have K246 : Keep h0 h245 [] := K224.wr W245 (Or.inr (by omega))
            have w247 := w245.pure (mkF m 184 #[.val (.int p0), .val (.long p1), .second, .val (.int (p0 &&& (3 : Int32))), .val (.int ((((p0.toUInt32 >>> ((2 : Int32) &&& 31).toUInt32).toInt32) &&& (1 : Int32)) + (1 : Int32))), .val (.int ((((p0.toUInt32 >>> ((3 : Int32) &&& 31).toUInt32).toInt32) &&& (1 : Int32)) + (1 : Int32))), .val (.int ((((p0.toUInt32 >>> ((4 : Int32) &&& 31).toUInt32).toInt32) &&& (1 : Int32)) + (1 : Int32))), .val (.ref b11), .val (.int (5 : Int32)), .val (.int (1 : Int32)), .val (.int (4 : Int32)), .unset, .unset, .unset] [(.int (4 : Int32)), (.long p1), (.int (5 : Int32)), (.ref b11)]) (fun X eT hZ hown k => by
                show Steps _ _ _ (State.setTop _ (mkF m 172 #[.val (.int p0), .val (.long p1), .second, .val (.int (p0 &&& (3 : Int32))), .val (.int ((((p0.toUInt32 >>> ((2 : Int32) &&& 31).toUInt32).toInt32) &&& (1 : Int32)) + (1 : Int32))), .val (.int ((((p0.toUInt32 >>> ((3 : Int32) &&& 31).toUInt32).toInt32) &&& (1 : Int32)) + (1 : Int32))), .val (.int ((((p0.toUInt32 >>> ((4 : Int32) &&& 31).toUInt32).toInt32) &&& (1 : Int32)) + (1 : Int32))), .val (.ref b11), .val (.int (4 : Int32)), .val (.int (1 : Int32)), .val (.int (4 : Int32)), .unset, .unset, .unset] [])) _
                refine S.iload X.here hx (hb hby at_172) rfl ?_
                refine S.iconst X.here hx (1 : Int32) (hb hby at_174) rfl ?_
                refine S.iaddV X.here hx (5 : Int32) (hb hby at_175) rfl ?_
                refine S.istore X.here hx (hb hby at_176) #[.val (.int p0), .val (.long p1), .second, .val (.int (p0 &&& (3 : Int32))), .val (.int ((((p0.toUInt32 >>> ((2 : Int32) &&& 31).toUInt32).toInt32) &&& (1 : Int32)) + (1 : Int32))), .val (.int ((((p0.toUInt32 >>> ((3 : Int32) &&& 31).toUInt32).toInt32) &&& (1 : Int32)) + (1 : Int32))), .val (.int ((((p0.toUInt32 >>> ((4 : Int32) &&& 31).toUInt32).toInt32) &&& (1 : Int32)) + (1 : Int32))), .val (.ref b11), .val (.int (5 : Int32)), .val (.int (1 : Int32)), .val (.int (4 : Int32)), .unset, .unset, .unset] rfl ?_
                refine S.aload X.here hx (hb hby at_178) rfl rfl ?_
                refine S.iload X.here hx (hb hby at_180) rfl ?_
                refine S.lloadN X.here hx (hb hby at_182) rfl ?_
                refine S.iconst X.here hx (4 : Int32) (hb hby at_183) rfl ?_
                exact k)
            obtain ⟨v248, h248, Q248, K248, z248, w248⟩ := w247.callS hx (y := (⟨"com/example/bylaw/bylaw/TreePathParentPinLaw", "ch", "(JI)C"⟩ : MethodName)) (W := 2) (hw _ (List.mem_of_getElem? (i := 19) rfl)) (hw _ (List.mem_of_getElem? (i := 20) rfl)) (hw _ (List.mem_of_getElem? (i := 21) rfl)) (hw _ (List.mem_of_getElem? (i := 22) rfl)) (by decide) ((rmch l Z a0 hw p1 (4 : Int32) h245 n0 (by omega)).pay w247.hZ (hw _ (List.mem_of_getElem? (i := 22) rfl)) (hw _ (List.mem_of_getElem? (i := 21) rfl)) (by decide) (by decide)) rfl (by rw [hml]; rfl) [(.int (5 : Int32)), (.ref b11)] (lenOf pd_16 rfl) rfl (by show 2 * 0 + _ ≤ _; exact Nat.le_of_eq rfl) (hb hby at_184) (by decide) (by decide) (fun _ q => nomatch q) (fun rv => (mkF m 187 #[.val (.int p0), .val (.long p1), .second, .val (.int (p0 &&& (3 : Int32))), .val (.int ((((p0.toUInt32 >>> ((2 : Int32) &&& 31).toUInt32).toInt32) &&& (1 : Int32)) + (1 : Int32))), .val (.int ((((p0.toUInt32 >>> ((3 : Int32) &&& 31).toUInt32).toInt32) &&& (1 : Int32)) + (1 : Int32))), .val (.int ((((p0.toUInt32 >>> ((4 : Int32) &&& 31).toUInt32).toInt32) &&& (1 : Int32)) + (1 : Int32))), .val (.ref b11), .val (.int (5 : Int32)), .val (.int (1 : Int32)), .val (.int (4 : Int32)), .unset, .unset, .unset] (rv.toList ++ [(.int (5 : Int32)), (.ref b11)]))) (fun _ => rfl)
            obtain ⟨rfl, rfl⟩ := Q248
            obtain ⟨h249, W249, z249, V249, w249⟩ := w248.stC hx U245 5 rfl (Nat.le_of_ble_eq_true rfl) ⟨by decide, by decide⟩ rfl rfl (hb hby at_187) (by omega) (mkF m 188 #[.val (.int p0), .val (.long p1), .second, .val (.int (p0 &&& (3 : Int32))), .val (.int ((((p0.toUInt32 >>> ((2 : Int32) &&& 31).toUInt32).toInt32) &&& (1 : Int32)) + (1 : Int32))), .val (.int ((((p0.toUInt32 >>> ((3 : Int32) &&& 31).toUInt32).toInt32) &&& (1 : Int32)) + (1 : Int32))), .val (.int ((((p0.toUInt32 >>> ((4 : Int32) &&& 31).toUInt32).toInt32) &&& (1 : Int32)) + (1 : Int32))), .val (.ref b11), .val (.int (5 : Int32)), .val (.int (1 : Int32)), .val (.int (4 : Int32)), .unset, .unset, .unset] []) rfl
            rw [nar_rng (own_ch_ok _ _).1] at V249
            have U249 : Arv Z h249 b11 k11 .char (8 : Int32) [(.int (own_ch p1 (0 : Int32))), (.int (47 : Int32)), (.int (own_ch p1 (2 : Int32))), (.int (own_ch p1 (3 : Int32))), (.int (47 : Int32)), (.int (own_ch p1 (4 : Int32))), (.int (0 : Int32)), (.int (0 : Int32))] (.int (0 : Int32)) := V249
            have K250 : Keep h0 h249 [] := K246.wr W249 (Or.inr (by omega))
            have w251 := w249.pure (mkF m 197 #[.val (.int p0), .val (.long p1), .second, .val (.int (p0 &&& (3 : Int32))), .val (.int ((((p0.toUInt32 >>> ((2 : Int32) &&& 31).toUInt32).toInt32) &&& (1 : Int32)) + (1 : Int32))), .val (.int ((((p0.toUInt32 >>> ((3 : Int32) &&& 31).toUInt32).toInt32) &&& (1 : Int32)) + (1 : Int32))), .val (.int ((((p0.toUInt32 >>> ((4 : Int32) &&& 31).toUInt32).toInt32) &&& (1 : Int32)) + (1 : Int32))), .val (.ref b11), .val (.int (6 : Int32)), .val (.int (1 : Int32)), .val (.int (4 : Int32)), .unset, .unset, .unset] [(.int (2 : Int32)), (.int ((((p0.toUInt32 >>> ((4 : Int32) &&& 31).toUInt32).toInt32) &&& (1 : Int32)) + (1 : Int32)))]) (fun X eT hZ hown k => by
                show Steps _ _ _ (State.setTop _ (mkF m 188 #[.val (.int p0), .val (.long p1), .second, .val (.int (p0 &&& (3 : Int32))), .val (.int ((((p0.toUInt32 >>> ((2 : Int32) &&& 31).toUInt32).toInt32) &&& (1 : Int32)) + (1 : Int32))), .val (.int ((((p0.toUInt32 >>> ((3 : Int32) &&& 31).toUInt32).toInt32) &&& (1 : Int32)) + (1 : Int32))), .val (.int ((((p0.toUInt32 >>> ((4 : Int32) &&& 31).toUInt32).toInt32) &&& (1 : Int32)) + (1 : Int32))), .val (.ref b11), .val (.int (5 : Int32)), .val (.int (1 : Int32)), .val (.int (4 : Int32)), .unset, .unset, .unset] [])) _
                refine S.iload X.here hx (hb hby at_188) rfl ?_
                refine S.iconst X.here hx (1 : Int32) (hb hby at_190) rfl ?_
                refine S.iaddV X.here hx (6 : Int32) (hb hby at_191) rfl ?_
                refine S.istore X.here hx (hb hby at_192) #[.val (.int p0), .val (.long p1), .second, .val (.int (p0 &&& (3 : Int32))), .val (.int ((((p0.toUInt32 >>> ((2 : Int32) &&& 31).toUInt32).toInt32) &&& (1 : Int32)) + (1 : Int32))), .val (.int ((((p0.toUInt32 >>> ((3 : Int32) &&& 31).toUInt32).toInt32) &&& (1 : Int32)) + (1 : Int32))), .val (.int ((((p0.toUInt32 >>> ((4 : Int32) &&& 31).toUInt32).toInt32) &&& (1 : Int32)) + (1 : Int32))), .val (.ref b11), .val (.int (6 : Int32)), .val (.int (1 : Int32)), .val (.int (4 : Int32)), .unset, .unset, .unset] rfl ?_
                refine S.iload X.here hx (hb hby at_194) rfl ?_
                refine S.iconst X.here hx (2 : Int32) (hb hby at_196) rfl ?_
                exact k)
            by_cases hc252 : ((((p0.toUInt32 >>> ((4 : Int32) &&& 31).toUInt32).toInt32) &&& (1 : Int32)) + (1 : Int32)) = (2 : Int32)
            · have w253 := w251.pure (mkF m 206 #[.val (.int p0), .val (.long p1), .second, .val (.int (p0 &&& (3 : Int32))), .val (.int ((((p0.toUInt32 >>> ((2 : Int32) &&& 31).toUInt32).toInt32) &&& (1 : Int32)) + (1 : Int32))), .val (.int ((((p0.toUInt32 >>> ((3 : Int32) &&& 31).toUInt32).toInt32) &&& (1 : Int32)) + (1 : Int32))), .val (.int ((((p0.toUInt32 >>> ((4 : Int32) &&& 31).toUInt32).toInt32) &&& (1 : Int32)) + (1 : Int32))), .val (.ref b11), .val (.int (6 : Int32)), .val (.int (1 : Int32)), .val (.int (4 : Int32)), .unset, .unset, .unset] [(.int (5 : Int32)), (.long p1), (.int (6 : Int32)), (.ref b11)]) (fun X eT hZ hown k => by
                  show Steps _ _ _ (State.setTop _ (mkF m 197 #[.val (.int p0), .val (.long p1), .second, .val (.int (p0 &&& (3 : Int32))), .val (.int ((((p0.toUInt32 >>> ((2 : Int32) &&& 31).toUInt32).toInt32) &&& (1 : Int32)) + (1 : Int32))), .val (.int ((((p0.toUInt32 >>> ((3 : Int32) &&& 31).toUInt32).toInt32) &&& (1 : Int32)) + (1 : Int32))), .val (.int ((((p0.toUInt32 >>> ((4 : Int32) &&& 31).toUInt32).toInt32) &&& (1 : Int32)) + (1 : Int32))), .val (.ref b11), .val (.int (6 : Int32)), .val (.int (1 : Int32)), .val (.int (4 : Int32)), .unset, .unset, .unset] [(.int (2 : Int32)), (.int ((((p0.toUInt32 >>> ((4 : Int32) &&& 31).toUInt32).toInt32) &&& (1 : Int32)) + (1 : Int32)))])) _
                  refine S.icmpNo X.here hx (hb hby at_197) (teq hc252).2 ?_
                  refine S.aload X.here hx (hb hby at_200) rfl rfl ?_
                  refine S.iload X.here hx (hb hby at_202) rfl ?_
                  refine S.lloadN X.here hx (hb hby at_204) rfl ?_
                  refine S.iconst X.here hx (5 : Int32) (hb hby at_205) rfl ?_
                  exact k)
              obtain ⟨v254, h254, Q254, K254, z254, w254⟩ := w253.callS hx (y := (⟨"com/example/bylaw/bylaw/TreePathParentPinLaw", "ch", "(JI)C"⟩ : MethodName)) (W := 2) (hw _ (List.mem_of_getElem? (i := 19) rfl)) (hw _ (List.mem_of_getElem? (i := 20) rfl)) (hw _ (List.mem_of_getElem? (i := 21) rfl)) (hw _ (List.mem_of_getElem? (i := 22) rfl)) (by decide) ((rmch l Z a0 hw p1 (5 : Int32) h249 n0 (by omega)).pay w253.hZ (hw _ (List.mem_of_getElem? (i := 22) rfl)) (hw _ (List.mem_of_getElem? (i := 21) rfl)) (by decide) (by decide)) rfl (by rw [hml]; rfl) [(.int (6 : Int32)), (.ref b11)] (lenOf pd_16 rfl) rfl (by show 2 * 0 + _ ≤ _; exact Nat.le_of_eq rfl) (hb hby at_206) (by decide) (by decide) (fun _ q => nomatch q) (fun rv => (mkF m 209 #[.val (.int p0), .val (.long p1), .second, .val (.int (p0 &&& (3 : Int32))), .val (.int ((((p0.toUInt32 >>> ((2 : Int32) &&& 31).toUInt32).toInt32) &&& (1 : Int32)) + (1 : Int32))), .val (.int ((((p0.toUInt32 >>> ((3 : Int32) &&& 31).toUInt32).toInt32) &&& (1 : Int32)) + (1 : Int32))), .val (.int ((((p0.toUInt32 >>> ((4 : Int32) &&& 31).toUInt32).toInt32) &&& (1 : Int32)) + (1 : Int32))), .val (.ref b11), .val (.int (6 : Int32)), .val (.int (1 : Int32)), .val (.int (4 : Int32)), .unset, .unset, .unset] (rv.toList ++ [(.int (6 : Int32)), (.ref b11)]))) (fun _ => rfl)
              obtain ⟨rfl, rfl⟩ := Q254
              obtain ⟨h255, W255, z255, V255, w255⟩ := w254.stC hx U249 6 rfl (Nat.le_of_ble_eq_true rfl) ⟨by decide, by decide⟩ rfl rfl (hb hby at_209) (by omega) (mkF m 210 #[.val (.int p0), .val (.long p1), .second, .val (.int (p0 &&& (3 : Int32))), .val (.int ((((p0.toUInt32 >>> ((2 : Int32) &&& 31).toUInt32).toInt32) &&& (1 : Int32)) + (1 : Int32))), .val (.int ((((p0.toUInt32 >>> ((3 : Int32) &&& 31).toUInt32).toInt32) &&& (1 : Int32)) + (1 : Int32))), .val (.int ((((p0.toUInt32 >>> ((4 : Int32) &&& 31).toUInt32).toInt32) &&& (1 : Int32)) + (1 : Int32))), .val (.ref b11), .val (.int (6 : Int32)), .val (.int (1 : Int32)), .val (.int (4 : Int32)), .unset, .unset, .unset] []) rfl
              rw [nar_rng (own_ch_ok _ _).1] at V255
              have U255 : Arv Z h255 b11 k11 .char (8 : Int32) [(.int (own_ch p1 (0 : Int32))), (.int (47 : Int32)), (.int (own_ch p1 (2 : Int32))), (.int (own_ch p1 (3 : Int32))), (.int (47 : Int32)), (.int (own_ch p1 (4 : Int32))), (.int (own_ch p1 (5 : Int32))), (.int (0 : Int32))] (.int (0 : Int32)) := V255
              have K256 : Keep h0 h255 [] := K250.wr W255 (Or.inr (by omega))
              have w257 := w255.pure (mkF m 220 #[.val (.int p0), .val (.long p1), .second, .val (.int (p0 &&& (3 : Int32))), .val (.int ((((p0.toUInt32 >>> ((2 : Int32) &&& 31).toUInt32).toInt32) &&& (1 : Int32)) + (1 : Int32))), .val (.int ((((p0.toUInt32 >>> ((3 : Int32) &&& 31).toUInt32).toInt32) &&& (1 : Int32)) + (1 : Int32))), .val (.int ((((p0.toUInt32 >>> ((4 : Int32) &&& 31).toUInt32).toInt32) &&& (1 : Int32)) + (1 : Int32))), .val (.ref b11), .val (.int (7 : Int32)), .val (.int (1 : Int32)), .val (.int (4 : Int32)), .unset, .unset, .unset] [(.int (7 : Int32)), (.ref b11)]) (fun X eT hZ hown k => by
                  show Steps _ _ _ (State.setTop _ (mkF m 210 #[.val (.int p0), .val (.long p1), .second, .val (.int (p0 &&& (3 : Int32))), .val (.int ((((p0.toUInt32 >>> ((2 : Int32) &&& 31).toUInt32).toInt32) &&& (1 : Int32)) + (1 : Int32))), .val (.int ((((p0.toUInt32 >>> ((3 : Int32) &&& 31).toUInt32).toInt32) &&& (1 : Int32)) + (1 : Int32))), .val (.int ((((p0.toUInt32 >>> ((4 : Int32) &&& 31).toUInt32).toInt32) &&& (1 : Int32)) + (1 : Int32))), .val (.ref b11), .val (.int (6 : Int32)), .val (.int (1 : Int32)), .val (.int (4 : Int32)), .unset, .unset, .unset] [])) _
                  refine S.iload X.here hx (hb hby at_210) rfl ?_
                  refine S.iconst X.here hx (1 : Int32) (hb hby at_212) rfl ?_
                  refine S.iaddV X.here hx (7 : Int32) (hb hby at_213) rfl ?_
                  refine S.istore X.here hx (hb hby at_214) #[.val (.int p0), .val (.long p1), .second, .val (.int (p0 &&& (3 : Int32))), .val (.int ((((p0.toUInt32 >>> ((2 : Int32) &&& 31).toUInt32).toInt32) &&& (1 : Int32)) + (1 : Int32))), .val (.int ((((p0.toUInt32 >>> ((3 : Int32) &&& 31).toUInt32).toInt32) &&& (1 : Int32)) + (1 : Int32))), .val (.int ((((p0.toUInt32 >>> ((4 : Int32) &&& 31).toUInt32).toInt32) &&& (1 : Int32)) + (1 : Int32))), .val (.ref b11), .val (.int (7 : Int32)), .val (.int (1 : Int32)), .val (.int (4 : Int32)), .unset, .unset, .unset] rfl ?_
                  refine S.aload X.here hx (hb hby at_216) rfl rfl ?_
                  refine S.iload X.here hx (hb hby at_218) rfl ?_
                  exact k)
              have F258 := X0.ext E11
              have F259 := F258.wr W15 (by omega)
              have F260 := F259.wr W213 (by omega)
              have F261 := F260.wr W217 (by omega)
              have F262 := F261.wr W223 (by omega)
              have F263 := F262.wr W245 (by omega)
              have F264 := F263.wr W249 (by omega)
              have F265 := F264.wr W255 (by omega)
              obtain ⟨v266, h266, Q266, K266, z266, w266⟩ := w257.callS hx (y := (⟨"com/example/bylaw/bylaw/TreePathParentPinLaw", "str", "([CI)Ljava/lang/String;"⟩ : MethodName)) (W := 0) (hw _ (List.mem_of_getElem? (i := 24) rfl)) (hw _ (List.mem_of_getElem? (i := 25) rfl)) (hw _ (List.mem_of_getElem? (i := 21) rfl)) (hw _ (List.mem_of_getElem? (i := 26) rfl)) (by decide) ((rmt7 l Z a0 hw b11 k11 (own_ch p1 (0 : Int32)) (47 : Int32) (own_ch p1 (2 : Int32)) (own_ch p1 (3 : Int32)) (47 : Int32) (own_ch p1 (4 : Int32)) (own_ch p1 (5 : Int32)) (0 : Int32) h255 n0 (by omega) hG F265 U255 (own_ch_ok _ _).1 (by decide) (own_ch_ok _ _).1 (own_ch_ok _ _).1 (by decide) (own_ch_ok _ _).1 (own_ch_ok _ _).1 (by decide)).pay w257.hZ (hw _ (List.mem_of_getElem? (i := 26) rfl)) (hw _ (List.mem_of_getElem? (i := 21) rfl)) (by decide) (by decide)) rfl (by rw [hml]; rfl) [] (lenOf pd_17 rfl) rfl (by show 2 * 0 + _ ≤ _; exact Nat.le_of_eq rfl) (hb hby at_220) (by decide) (by decide) (fun _ q => nomatch q) (fun rv => (mkF m 223 #[.val (.int p0), .val (.long p1), .second, .val (.int (p0 &&& (3 : Int32))), .val (.int ((((p0.toUInt32 >>> ((2 : Int32) &&& 31).toUInt32).toInt32) &&& (1 : Int32)) + (1 : Int32))), .val (.int ((((p0.toUInt32 >>> ((3 : Int32) &&& 31).toUInt32).toInt32) &&& (1 : Int32)) + (1 : Int32))), .val (.int ((((p0.toUInt32 >>> ((4 : Int32) &&& 31).toUInt32).toInt32) &&& (1 : Int32)) + (1 : Int32))), .val (.ref b11), .val (.int (7 : Int32)), .val (.int (1 : Int32)), .val (.int (4 : Int32)), .unset, .unset, .unset] (rv.toList ++ []))) (fun _ => rfl)
              obtain ⟨x266, rfl, gx266, S266⟩ := Q266
              have K267 : Keep h0 h266 [] := K256.trans K266 (fun _ q => nomatch q)
              have lt_x266 := S266.lt
              have w268 := w266.pure (mkF m 258 #[.val (.int p0), .val (.long p1), .second, .val (.int (p0 &&& (3 : Int32))), .val (.int ((((p0.toUInt32 >>> ((2 : Int32) &&& 31).toUInt32).toInt32) &&& (1 : Int32)) + (1 : Int32))), .val (.int ((((p0.toUInt32 >>> ((3 : Int32) &&& 31).toUInt32).toInt32) &&& (1 : Int32)) + (1 : Int32))), .val (.int ((((p0.toUInt32 >>> ((4 : Int32) &&& 31).toUInt32).toInt32) &&& (1 : Int32)) + (1 : Int32))), .val (.ref b11), .val (.int (7 : Int32)), .val (.int (1 : Int32)), .val (.int (4 : Int32)), .val (.ref x266), .unset, .unset] [(.int (4 : Int32)), (.ref b11)]) (fun X eT hZ hown k => by
                  show Steps _ _ _ (State.setTop _ (mkF m 223 #[.val (.int p0), .val (.long p1), .second, .val (.int (p0 &&& (3 : Int32))), .val (.int ((((p0.toUInt32 >>> ((2 : Int32) &&& 31).toUInt32).toInt32) &&& (1 : Int32)) + (1 : Int32))), .val (.int ((((p0.toUInt32 >>> ((3 : Int32) &&& 31).toUInt32).toInt32) &&& (1 : Int32)) + (1 : Int32))), .val (.int ((((p0.toUInt32 >>> ((4 : Int32) &&& 31).toUInt32).toInt32) &&& (1 : Int32)) + (1 : Int32))), .val (.ref b11), .val (.int (7 : Int32)), .val (.int (1 : Int32)), .val (.int (4 : Int32)), .unset, .unset, .unset] [(.ref x266)])) _
                  refine S.astore X.here hx (hb hby at_223) rfl #[.val (.int p0), .val (.long p1), .second, .val (.int (p0 &&& (3 : Int32))), .val (.int ((((p0.toUInt32 >>> ((2 : Int32) &&& 31).toUInt32).toInt32) &&& (1 : Int32)) + (1 : Int32))), .val (.int ((((p0.toUInt32 >>> ((3 : Int32) &&& 31).toUInt32).toInt32) &&& (1 : Int32)) + (1 : Int32))), .val (.int ((((p0.toUInt32 >>> ((4 : Int32) &&& 31).toUInt32).toInt32) &&& (1 : Int32)) + (1 : Int32))), .val (.ref b11), .val (.int (7 : Int32)), .val (.int (1 : Int32)), .val (.int (4 : Int32)), .val (.ref x266), .unset, .unset] rfl ?_
                  refine S.iloadN X.here hx (hb hby at_225) rfl ?_
                  refine S.iconst X.here hx (1 : Int32) (hb hby at_226) rfl ?_
                  refine S.icmpYes X.here hx 237 (hb hby at_227) (feq (own_sh.2.2.1 hc198)).2 (by decide) (by decide) ?_
                  refine S.iloadN X.here hx (hb hby at_237) rfl ?_
                  refine S.iconst X.here hx (2 : Int32) (hb hby at_238) rfl ?_
                  refine S.icmpYes X.here hx 254 (hb hby at_239) (feq (own_sh.2.2.2.2 hc226)).2 (by decide) (by decide) ?_
                  refine S.aload X.here hx (hb hby at_254) rfl rfl ?_
                  refine S.iload X.here hx (hb hby at_256) rfl ?_
                  exact k)
              have F269 := F265.keep K266 all0
              have F270 := U255.keep K266 nin0
              obtain ⟨v271, h271, Q271, K271, z271, w271⟩ := w268.callS hx (y := (⟨"com/example/bylaw/bylaw/TreePathParentPinLaw", "str", "([CI)Ljava/lang/String;"⟩ : MethodName)) (W := 0) (hw _ (List.mem_of_getElem? (i := 24) rfl)) (hw _ (List.mem_of_getElem? (i := 25) rfl)) (hw _ (List.mem_of_getElem? (i := 21) rfl)) (hw _ (List.mem_of_getElem? (i := 26) rfl)) (by decide) ((rmt4 l Z a0 hw b11 k11 (own_ch p1 (0 : Int32)) (47 : Int32) (own_ch p1 (2 : Int32)) (own_ch p1 (3 : Int32)) (47 : Int32) (own_ch p1 (4 : Int32)) (own_ch p1 (5 : Int32)) (0 : Int32) h266 n0 (by omega) hG F269 F270 (own_ch_ok _ _).1 (by decide) (own_ch_ok _ _).1 (own_ch_ok _ _).1 (by decide) (own_ch_ok _ _).1 (own_ch_ok _ _).1 (by decide)).pay w268.hZ (hw _ (List.mem_of_getElem? (i := 26) rfl)) (hw _ (List.mem_of_getElem? (i := 21) rfl)) (by decide) (by decide)) rfl (by rw [hml]; rfl) [] (lenOf pd_17 rfl) rfl (by show 2 * 0 + _ ≤ _; exact Nat.le_of_eq rfl) (hb hby at_258) (by decide) (by decide) (fun _ q => nomatch q) (fun rv => (mkF m 261 #[.val (.int p0), .val (.long p1), .second, .val (.int (p0 &&& (3 : Int32))), .val (.int ((((p0.toUInt32 >>> ((2 : Int32) &&& 31).toUInt32).toInt32) &&& (1 : Int32)) + (1 : Int32))), .val (.int ((((p0.toUInt32 >>> ((3 : Int32) &&& 31).toUInt32).toInt32) &&& (1 : Int32)) + (1 : Int32))), .val (.int ((((p0.toUInt32 >>> ((4 : Int32) &&& 31).toUInt32).toInt32) &&& (1 : Int32)) + (1 : Int32))), .val (.ref b11), .val (.int (7 : Int32)), .val (.int (1 : Int32)), .val (.int (4 : Int32)), .val (.ref x266), .unset, .unset] (rv.toList ++ []))) (fun _ => rfl)
              obtain ⟨x271, rfl, gx271, S271⟩ := Q271
              have K272 : Keep h0 h271 [] := K267.trans K271 (fun _ q => nomatch q)
              have lt_x271 := S271.lt
              have w273 := w271.pure (mkF m 263 #[.val (.int p0), .val (.long p1), .second, .val (.int (p0 &&& (3 : Int32))), .val (.int ((((p0.toUInt32 >>> ((2 : Int32) &&& 31).toUInt32).toInt32) &&& (1 : Int32)) + (1 : Int32))), .val (.int ((((p0.toUInt32 >>> ((3 : Int32) &&& 31).toUInt32).toInt32) &&& (1 : Int32)) + (1 : Int32))), .val (.int ((((p0.toUInt32 >>> ((4 : Int32) &&& 31).toUInt32).toInt32) &&& (1 : Int32)) + (1 : Int32))), .val (.ref b11), .val (.int (7 : Int32)), .val (.int (1 : Int32)), .val (.int (4 : Int32)), .val (.ref x266), .val (.ref x271), .unset] []) (fun X eT hZ hown k => by
                  show Steps _ _ _ (State.setTop _ (mkF m 261 #[.val (.int p0), .val (.long p1), .second, .val (.int (p0 &&& (3 : Int32))), .val (.int ((((p0.toUInt32 >>> ((2 : Int32) &&& 31).toUInt32).toInt32) &&& (1 : Int32)) + (1 : Int32))), .val (.int ((((p0.toUInt32 >>> ((3 : Int32) &&& 31).toUInt32).toInt32) &&& (1 : Int32)) + (1 : Int32))), .val (.int ((((p0.toUInt32 >>> ((4 : Int32) &&& 31).toUInt32).toInt32) &&& (1 : Int32)) + (1 : Int32))), .val (.ref b11), .val (.int (7 : Int32)), .val (.int (1 : Int32)), .val (.int (4 : Int32)), .val (.ref x266), .unset, .unset] [(.ref x271)])) _
                  refine S.astore X.here hx (hb hby at_261) rfl #[.val (.int p0), .val (.long p1), .second, .val (.int (p0 &&& (3 : Int32))), .val (.int ((((p0.toUInt32 >>> ((2 : Int32) &&& 31).toUInt32).toInt32) &&& (1 : Int32)) + (1 : Int32))), .val (.int ((((p0.toUInt32 >>> ((3 : Int32) &&& 31).toUInt32).toInt32) &&& (1 : Int32)) + (1 : Int32))), .val (.int ((((p0.toUInt32 >>> ((4 : Int32) &&& 31).toUInt32).toInt32) &&& (1 : Int32)) + (1 : Int32))), .val (.ref b11), .val (.int (7 : Int32)), .val (.int (1 : Int32)), .val (.int (4 : Int32)), .val (.ref x266), .val (.ref x271), .unset] rfl ?_
                  exact k)
              have pp274 := own_pp_csccscc (own_ch p1 (0 : Int32)) (own_ch p1 (2 : Int32)) (own_ch p1 (3 : Int32)) (own_ch p1 (4 : Int32)) (own_ch p1 (5 : Int32)) (own_ch_ok _ _).2 (own_ch_ok _ _).2 (own_ch_ok _ _).2 (own_ch_ok _ _).2 (own_ch_ok _ _).2
              have F275 := F269.keep K271 all0
              have F276 := S266.keep K271 all0
              exact ptT l Z a0 hw hE Bd hml p0 (p0 &&& (3 : Int32)) ((((p0.toUInt32 >>> ((2 : Int32) &&& 31).toUInt32).toInt32) &&& (1 : Int32)) + (1 : Int32)) ((((p0.toUInt32 >>> ((3 : Int32) &&& 31).toUInt32).toInt32) &&& (1 : Int32)) + (1 : Int32)) ((((p0.toUInt32 >>> ((4 : Int32) &&& 31).toUInt32).toInt32) &&& (1 : Int32)) + (1 : Int32)) (7 : Int32) (1 : Int32) (4 : Int32) p1 b11 x266 x271 [(own_ch p1 (0 : Int32)), (47 : Int32), (own_ch p1 (2 : Int32)), (own_ch p1 (3 : Int32)), (47 : Int32), (own_ch p1 (4 : Int32)), (own_ch p1 (5 : Int32))] [(own_ch p1 (0 : Int32)), (47 : Int32), (own_ch p1 (2 : Int32)), (own_ch p1 (3 : Int32))] h0 n0 Z0 (w273.more (k := 16) (n := 160) (by decide) (by decide)) K272 (by omega) hG F275 (F276.more (by omega)) (S271.more (by omega)) pp274.1 pp274.2.1 pp274.2.2.1 pp274.2.2.2
            · have w277 := w251.pure (mkF m 220 #[.val (.int p0), .val (.long p1), .second, .val (.int (p0 &&& (3 : Int32))), .val (.int ((((p0.toUInt32 >>> ((2 : Int32) &&& 31).toUInt32).toInt32) &&& (1 : Int32)) + (1 : Int32))), .val (.int ((((p0.toUInt32 >>> ((3 : Int32) &&& 31).toUInt32).toInt32) &&& (1 : Int32)) + (1 : Int32))), .val (.int ((((p0.toUInt32 >>> ((4 : Int32) &&& 31).toUInt32).toInt32) &&& (1 : Int32)) + (1 : Int32))), .val (.ref b11), .val (.int (6 : Int32)), .val (.int (1 : Int32)), .val (.int (4 : Int32)), .unset, .unset, .unset] [(.int (6 : Int32)), (.ref b11)]) (fun X eT hZ hown k => by
                  show Steps _ _ _ (State.setTop _ (mkF m 197 #[.val (.int p0), .val (.long p1), .second, .val (.int (p0 &&& (3 : Int32))), .val (.int ((((p0.toUInt32 >>> ((2 : Int32) &&& 31).toUInt32).toInt32) &&& (1 : Int32)) + (1 : Int32))), .val (.int ((((p0.toUInt32 >>> ((3 : Int32) &&& 31).toUInt32).toInt32) &&& (1 : Int32)) + (1 : Int32))), .val (.int ((((p0.toUInt32 >>> ((4 : Int32) &&& 31).toUInt32).toInt32) &&& (1 : Int32)) + (1 : Int32))), .val (.ref b11), .val (.int (6 : Int32)), .val (.int (1 : Int32)), .val (.int (4 : Int32)), .unset, .unset, .unset] [(.int (2 : Int32)), (.int ((((p0.toUInt32 >>> ((4 : Int32) &&& 31).toUInt32).toInt32) &&& (1 : Int32)) + (1 : Int32)))])) _
                  refine S.icmpYes X.here hx 216 (hb hby at_197) (feq hc252).2 (by decide) (by decide) ?_
                  refine S.aload X.here hx (hb hby at_216) rfl rfl ?_
                  refine S.iload X.here hx (hb hby at_218) rfl ?_
                  exact k)
              have F278 := X0.ext E11
              have F279 := F278.wr W15 (by omega)
              have F280 := F279.wr W213 (by omega)
              have F281 := F280.wr W217 (by omega)
              have F282 := F281.wr W223 (by omega)
              have F283 := F282.wr W245 (by omega)
              have F284 := F283.wr W249 (by omega)
              obtain ⟨v285, h285, Q285, K285, z285, w285⟩ := w277.callS hx (y := (⟨"com/example/bylaw/bylaw/TreePathParentPinLaw", "str", "([CI)Ljava/lang/String;"⟩ : MethodName)) (W := 0) (hw _ (List.mem_of_getElem? (i := 24) rfl)) (hw _ (List.mem_of_getElem? (i := 25) rfl)) (hw _ (List.mem_of_getElem? (i := 21) rfl)) (hw _ (List.mem_of_getElem? (i := 26) rfl)) (by decide) ((rmt6 l Z a0 hw b11 k11 (own_ch p1 (0 : Int32)) (47 : Int32) (own_ch p1 (2 : Int32)) (own_ch p1 (3 : Int32)) (47 : Int32) (own_ch p1 (4 : Int32)) (0 : Int32) (0 : Int32) h249 n0 (by omega) hG F284 U249 (own_ch_ok _ _).1 (by decide) (own_ch_ok _ _).1 (own_ch_ok _ _).1 (by decide) (own_ch_ok _ _).1 (by decide) (by decide)).pay w277.hZ (hw _ (List.mem_of_getElem? (i := 26) rfl)) (hw _ (List.mem_of_getElem? (i := 21) rfl)) (by decide) (by decide)) rfl (by rw [hml]; rfl) [] (lenOf pd_17 rfl) rfl (by show 2 * 0 + _ ≤ _; exact Nat.le_of_eq rfl) (hb hby at_220) (by decide) (by decide) (fun _ q => nomatch q) (fun rv => (mkF m 223 #[.val (.int p0), .val (.long p1), .second, .val (.int (p0 &&& (3 : Int32))), .val (.int ((((p0.toUInt32 >>> ((2 : Int32) &&& 31).toUInt32).toInt32) &&& (1 : Int32)) + (1 : Int32))), .val (.int ((((p0.toUInt32 >>> ((3 : Int32) &&& 31).toUInt32).toInt32) &&& (1 : Int32)) + (1 : Int32))), .val (.int ((((p0.toUInt32 >>> ((4 : Int32) &&& 31).toUInt32).toInt32) &&& (1 : Int32)) + (1 : Int32))), .val (.ref b11), .val (.int (6 : Int32)), .val (.int (1 : Int32)), .val (.int (4 : Int32)), .unset, .unset, .unset] (rv.toList ++ []))) (fun _ => rfl)
              obtain ⟨x285, rfl, gx285, S285⟩ := Q285
              have K286 : Keep h0 h285 [] := K250.trans K285 (fun _ q => nomatch q)
              have lt_x285 := S285.lt
              have w287 := w285.pure (mkF m 258 #[.val (.int p0), .val (.long p1), .second, .val (.int (p0 &&& (3 : Int32))), .val (.int ((((p0.toUInt32 >>> ((2 : Int32) &&& 31).toUInt32).toInt32) &&& (1 : Int32)) + (1 : Int32))), .val (.int ((((p0.toUInt32 >>> ((3 : Int32) &&& 31).toUInt32).toInt32) &&& (1 : Int32)) + (1 : Int32))), .val (.int ((((p0.toUInt32 >>> ((4 : Int32) &&& 31).toUInt32).toInt32) &&& (1 : Int32)) + (1 : Int32))), .val (.ref b11), .val (.int (6 : Int32)), .val (.int (1 : Int32)), .val (.int (4 : Int32)), .val (.ref x285), .unset, .unset] [(.int (4 : Int32)), (.ref b11)]) (fun X eT hZ hown k => by
                  show Steps _ _ _ (State.setTop _ (mkF m 223 #[.val (.int p0), .val (.long p1), .second, .val (.int (p0 &&& (3 : Int32))), .val (.int ((((p0.toUInt32 >>> ((2 : Int32) &&& 31).toUInt32).toInt32) &&& (1 : Int32)) + (1 : Int32))), .val (.int ((((p0.toUInt32 >>> ((3 : Int32) &&& 31).toUInt32).toInt32) &&& (1 : Int32)) + (1 : Int32))), .val (.int ((((p0.toUInt32 >>> ((4 : Int32) &&& 31).toUInt32).toInt32) &&& (1 : Int32)) + (1 : Int32))), .val (.ref b11), .val (.int (6 : Int32)), .val (.int (1 : Int32)), .val (.int (4 : Int32)), .unset, .unset, .unset] [(.ref x285)])) _
                  refine S.astore X.here hx (hb hby at_223) rfl #[.val (.int p0), .val (.long p1), .second, .val (.int (p0 &&& (3 : Int32))), .val (.int ((((p0.toUInt32 >>> ((2 : Int32) &&& 31).toUInt32).toInt32) &&& (1 : Int32)) + (1 : Int32))), .val (.int ((((p0.toUInt32 >>> ((3 : Int32) &&& 31).toUInt32).toInt32) &&& (1 : Int32)) + (1 : Int32))), .val (.int ((((p0.toUInt32 >>> ((4 : Int32) &&& 31).toUInt32).toInt32) &&& (1 : Int32)) + (1 : Int32))), .val (.ref b11), .val (.int (6 : Int32)), .val (.int (1 : Int32)), .val (.int (4 : Int32)), .val (.ref x285), .unset, .unset] rfl ?_
                  refine S.iloadN X.here hx (hb hby at_225) rfl ?_
                  refine S.iconst X.here hx (1 : Int32) (hb hby at_226) rfl ?_
                  refine S.icmpYes X.here hx 237 (hb hby at_227) (feq (own_sh.2.2.1 hc198)).2 (by decide) (by decide) ?_
                  refine S.iloadN X.here hx (hb hby at_237) rfl ?_
                  refine S.iconst X.here hx (2 : Int32) (hb hby at_238) rfl ?_
                  refine S.icmpYes X.here hx 254 (hb hby at_239) (feq (own_sh.2.2.2.2 hc226)).2 (by decide) (by decide) ?_
                  refine S.aload X.here hx (hb hby at_254) rfl rfl ?_
                  refine S.iload X.here hx (hb hby at_256) rfl ?_
                  exact k)
              have F288 := F284.keep K285 all0
              have F289 := U249.keep K285 nin0
              obtain ⟨v290, h290, Q290, K290, z290, w290⟩ := w287.callS hx (y := (⟨"com/example/bylaw/bylaw/TreePathParentPinLaw", "str", "([CI)Ljava/lang/String;"⟩ : MethodName)) (W := 0) (hw _ (List.mem_of_getElem? (i := 24) rfl)) (hw _ (List.mem_of_getElem? (i := 25) rfl)) (hw _ (List.mem_of_getElem? (i := 21) rfl)) (hw _ (List.mem_of_getElem? (i := 26) rfl)) (by decide) ((rmt4 l Z a0 hw b11 k11 (own_ch p1 (0 : Int32)) (47 : Int32) (own_ch p1 (2 : Int32)) (own_ch p1 (3 : Int32)) (47 : Int32) (own_ch p1 (4 : Int32)) (0 : Int32) (0 : Int32) h285 n0 (by omega) hG F288 F289 (own_ch_ok _ _).1 (by decide) (own_ch_ok _ _).1 (own_ch_ok _ _).1 (by decide) (own_ch_ok _ _).1 (by decide) (by decide)).pay w287.hZ (hw _ (List.mem_of_getElem? (i := 26) rfl)) (hw _ (List.mem_of_getElem? (i := 21) rfl)) (by decide) (by decide)) rfl (by rw [hml]; rfl) [] (lenOf pd_17 rfl) rfl (by show 2 * 0 + _ ≤ _; exact Nat.le_of_eq rfl) (hb hby at_258) (by decide) (by decide) (fun _ q => nomatch q) (fun rv => (mkF m 261 #[.val (.int p0), .val (.long p1), .second, .val (.int (p0 &&& (3 : Int32))), .val (.int ((((p0.toUInt32 >>> ((2 : Int32) &&& 31).toUInt32).toInt32) &&& (1 : Int32)) + (1 : Int32))), .val (.int ((((p0.toUInt32 >>> ((3 : Int32) &&& 31).toUInt32).toInt32) &&& (1 : Int32)) + (1 : Int32))), .val (.int ((((p0.toUInt32 >>> ((4 : Int32) &&& 31).toUInt32).toInt32) &&& (1 : Int32)) + (1 : Int32))), .val (.ref b11), .val (.int (6 : Int32)), .val (.int (1 : Int32)), .val (.int (4 : Int32)), .val (.ref x285), .unset, .unset] (rv.toList ++ []))) (fun _ => rfl)
              obtain ⟨x290, rfl, gx290, S290⟩ := Q290
              have K291 : Keep h0 h290 [] := K286.trans K290 (fun _ q => nomatch q)
              have lt_x290 := S290.lt
              have w292 := w290.pure (mkF m 263 #[.val (.int p0), .val (.long p1), .second, .val (.int (p0 &&& (3 : Int32))), .val (.int ((((p0.toUInt32 >>> ((2 : Int32) &&& 31).toUInt32).toInt32) &&& (1 : Int32)) + (1 : Int32))), .val (.int ((((p0.toUInt32 >>> ((3 : Int32) &&& 31).toUInt32).toInt32) &&& (1 : Int32)) + (1 : Int32))), .val (.int ((((p0.toUInt32 >>> ((4 : Int32) &&& 31).toUInt32).toInt32) &&& (1 : Int32)) + (1 : Int32))), .val (.ref b11), .val (.int (6 : Int32)), .val (.int (1 : Int32)), .val (.int (4 : Int32)), .val (.ref x285), .val (.ref x290), .unset] []) (fun X eT hZ hown k => by
                  show Steps _ _ _ (State.setTop _ (mkF m 261 #[.val (.int p0), .val (.long p1), .second, .val (.int (p0 &&& (3 : Int32))), .val (.int ((((p0.toUInt32 >>> ((2 : Int32) &&& 31).toUInt32).toInt32) &&& (1 : Int32)) + (1 : Int32))), .val (.int ((((p0.toUInt32 >>> ((3 : Int32) &&& 31).toUInt32).toInt32) &&& (1 : Int32)) + (1 : Int32))), .val (.int ((((p0.toUInt32 >>> ((4 : Int32) &&& 31).toUInt32).toInt32) &&& (1 : Int32)) + (1 : Int32))), .val (.ref b11), .val (.int (6 : Int32)), .val (.int (1 : Int32)), .val (.int (4 : Int32)), .val (.ref x285), .unset, .unset] [(.ref x290)])) _
                  refine S.astore X.here hx (hb hby at_261) rfl #[.val (.int p0), .val (.long p1), .second, .val (.int (p0 &&& (3 : Int32))), .val (.int ((((p0.toUInt32 >>> ((2 : Int32) &&& 31).toUInt32).toInt32) &&& (1 : Int32)) + (1 : Int32))), .val (.int ((((p0.toUInt32 >>> ((3 : Int32) &&& 31).toUInt32).toInt32) &&& (1 : Int32)) + (1 : Int32))), .val (.int ((((p0.toUInt32 >>> ((4 : Int32) &&& 31).toUInt32).toInt32) &&& (1 : Int32)) + (1 : Int32))), .val (.ref b11), .val (.int (6 : Int32)), .val (.int (1 : Int32)), .val (.int (4 : Int32)), .val (.ref x285), .val (.ref x290), .unset] rfl ?_
                  exact k)
              have pp293 := own_pp_csccsc (own_ch p1 (0 : Int32)) (own_ch p1 (2 : Int32)) (own_ch p1 (3 : Int32)) (own_ch p1 (4 : Int32)) (own_ch_ok _ _).2 (own_ch_ok _ _).2 (own_ch_ok _ _).2 (own_ch_ok _ _).2
              have F294 := F288.keep K290 all0
              have F295 := S285.keep K290 all0
              exact ptT l Z a0 hw hE Bd hml p0 (p0 &&& (3 : Int32)) ((((p0.toUInt32 >>> ((2 : Int32) &&& 31).toUInt32).toInt32) &&& (1 : Int32)) + (1 : Int32)) ((((p0.toUInt32 >>> ((3 : Int32) &&& 31).toUInt32).toInt32) &&& (1 : Int32)) + (1 : Int32)) ((((p0.toUInt32 >>> ((4 : Int32) &&& 31).toUInt32).toInt32) &&& (1 : Int32)) + (1 : Int32)) (6 : Int32) (1 : Int32) (4 : Int32) p1 b11 x285 x290 [(own_ch p1 (0 : Int32)), (47 : Int32), (own_ch p1 (2 : Int32)), (own_ch p1 (3 : Int32)), (47 : Int32), (own_ch p1 (4 : Int32))] [(own_ch p1 (0 : Int32)), (47 : Int32), (own_ch p1 (2 : Int32)), (own_ch p1 (3 : Int32))] h0 n0 Z0 (w292.more (k := 16) (n := 160) (by decide) (by decide)) K291 (by omega) hG F294 (F295.more (by omega)) (S290.more (by omega)) pp293.1 pp293.2.1 pp293.2.2.1 pp293.2.2.2
        · have w296 := w219.pure (mkF m 162 #[.val (.int p0), .val (.long p1), .second, .val (.int (p0 &&& (3 : Int32))), .val (.int ((((p0.toUInt32 >>> ((2 : Int32) &&& 31).toUInt32).toInt32) &&& (1 : Int32)) + (1 : Int32))), .val (.int ((((p0.toUInt32 >>> ((3 : Int32) &&& 31).toUInt32).toInt32) &&& (1 : Int32)) + (1 : Int32))), .val (.int ((((p0.toUInt32 >>> ((4 : Int32) &&& 31).toUInt32).toInt32) &&& (1 : Int32)) + (1 : Int32))), .val (.ref b11), .val (.int (3 : Int32)), .val (.int (1 : Int32)), .val (.int (3 : Int32)), .unset, .unset, .unset] [(.int (3 : Int32)), (.int (p0 &&& (3 : Int32)))]) (fun X eT hZ hown k => by
              show Steps _ _ _ (State.setTop _ (mkF m 137 #[.val (.int p0), .val (.long p1), .second, .val (.int (p0 &&& (3 : Int32))), .val (.int ((((p0.toUInt32 >>> ((2 : Int32) &&& 31).toUInt32).toInt32) &&& (1 : Int32)) + (1 : Int32))), .val (.int ((((p0.toUInt32 >>> ((3 : Int32) &&& 31).toUInt32).toInt32) &&& (1 : Int32)) + (1 : Int32))), .val (.int ((((p0.toUInt32 >>> ((4 : Int32) &&& 31).toUInt32).toInt32) &&& (1 : Int32)) + (1 : Int32))), .val (.ref b11), .val (.int (3 : Int32)), .val (.int (1 : Int32)), .unset, .unset, .unset, .unset] [(.int (2 : Int32)), (.int ((((p0.toUInt32 >>> ((3 : Int32) &&& 31).toUInt32).toInt32) &&& (1 : Int32)) + (1 : Int32)))])) _
              refine S.icmpYes X.here hx 156 (hb hby at_137) (feq hc220).2 (by decide) (by decide) ?_
              refine S.iload X.here hx (hb hby at_156) rfl ?_
              refine S.istore X.here hx (hb hby at_158) #[.val (.int p0), .val (.long p1), .second, .val (.int (p0 &&& (3 : Int32))), .val (.int ((((p0.toUInt32 >>> ((2 : Int32) &&& 31).toUInt32).toInt32) &&& (1 : Int32)) + (1 : Int32))), .val (.int ((((p0.toUInt32 >>> ((3 : Int32) &&& 31).toUInt32).toInt32) &&& (1 : Int32)) + (1 : Int32))), .val (.int ((((p0.toUInt32 >>> ((4 : Int32) &&& 31).toUInt32).toInt32) &&& (1 : Int32)) + (1 : Int32))), .val (.ref b11), .val (.int (3 : Int32)), .val (.int (1 : Int32)), .val (.int (3 : Int32)), .unset, .unset, .unset] rfl ?_
              refine S.iloadN X.here hx (hb hby at_160) rfl ?_
              refine S.iconst X.here hx (3 : Int32) (hb hby at_161) rfl ?_
              exact k)
          by_cases hc297 : (p0 &&& (3 : Int32)) < (3 : Int32)
          · have w298 := w296.pure (mkF m 220 #[.val (.int p0), .val (.long p1), .second, .val (.int (p0 &&& (3 : Int32))), .val (.int ((((p0.toUInt32 >>> ((2 : Int32) &&& 31).toUInt32).toInt32) &&& (1 : Int32)) + (1 : Int32))), .val (.int ((((p0.toUInt32 >>> ((3 : Int32) &&& 31).toUInt32).toInt32) &&& (1 : Int32)) + (1 : Int32))), .val (.int ((((p0.toUInt32 >>> ((4 : Int32) &&& 31).toUInt32).toInt32) &&& (1 : Int32)) + (1 : Int32))), .val (.ref b11), .val (.int (3 : Int32)), .val (.int (1 : Int32)), .val (.int (3 : Int32)), .unset, .unset, .unset] [(.int (3 : Int32)), (.ref b11)]) (fun X eT hZ hown k => by
                show Steps _ _ _ (State.setTop _ (mkF m 162 #[.val (.int p0), .val (.long p1), .second, .val (.int (p0 &&& (3 : Int32))), .val (.int ((((p0.toUInt32 >>> ((2 : Int32) &&& 31).toUInt32).toInt32) &&& (1 : Int32)) + (1 : Int32))), .val (.int ((((p0.toUInt32 >>> ((3 : Int32) &&& 31).toUInt32).toInt32) &&& (1 : Int32)) + (1 : Int32))), .val (.int ((((p0.toUInt32 >>> ((4 : Int32) &&& 31).toUInt32).toInt32) &&& (1 : Int32)) + (1 : Int32))), .val (.ref b11), .val (.int (3 : Int32)), .val (.int (1 : Int32)), .val (.int (3 : Int32)), .unset, .unset, .unset] [(.int (3 : Int32)), (.int (p0 &&& (3 : Int32)))])) _
                refine S.icmpYes X.here hx 216 (hb hby at_162) (tlt hc297).1 (by decide) (by decide) ?_
                refine S.aload X.here hx (hb hby at_216) rfl rfl ?_
                refine S.iload X.here hx (hb hby at_218) rfl ?_
                exact k)
            have F299 := X0.ext E11
            have F300 := F299.wr W15 (by omega)
            have F301 := F300.wr W213 (by omega)
            have F302 := F301.wr W217 (by omega)
            obtain ⟨v303, h303, Q303, K303, z303, w303⟩ := w298.callS hx (y := (⟨"com/example/bylaw/bylaw/TreePathParentPinLaw", "str", "([CI)Ljava/lang/String;"⟩ : MethodName)) (W := 0) (hw _ (List.mem_of_getElem? (i := 24) rfl)) (hw _ (List.mem_of_getElem? (i := 25) rfl)) (hw _ (List.mem_of_getElem? (i := 21) rfl)) (hw _ (List.mem_of_getElem? (i := 26) rfl)) (by decide) ((rmt3 l Z a0 hw b11 k11 (own_ch p1 (0 : Int32)) (47 : Int32) (own_ch p1 (2 : Int32)) (0 : Int32) (0 : Int32) (0 : Int32) (0 : Int32) (0 : Int32) h217 n0 (by omega) hG F302 U217 (own_ch_ok _ _).1 (by decide) (own_ch_ok _ _).1 (by decide) (by decide) (by decide) (by decide) (by decide)).pay w298.hZ (hw _ (List.mem_of_getElem? (i := 26) rfl)) (hw _ (List.mem_of_getElem? (i := 21) rfl)) (by decide) (by decide)) rfl (by rw [hml]; rfl) [] (lenOf pd_17 rfl) rfl (by show 2 * 0 + _ ≤ _; exact Nat.le_of_eq rfl) (hb hby at_220) (by decide) (by decide) (fun _ q => nomatch q) (fun rv => (mkF m 223 #[.val (.int p0), .val (.long p1), .second, .val (.int (p0 &&& (3 : Int32))), .val (.int ((((p0.toUInt32 >>> ((2 : Int32) &&& 31).toUInt32).toInt32) &&& (1 : Int32)) + (1 : Int32))), .val (.int ((((p0.toUInt32 >>> ((3 : Int32) &&& 31).toUInt32).toInt32) &&& (1 : Int32)) + (1 : Int32))), .val (.int ((((p0.toUInt32 >>> ((4 : Int32) &&& 31).toUInt32).toInt32) &&& (1 : Int32)) + (1 : Int32))), .val (.ref b11), .val (.int (3 : Int32)), .val (.int (1 : Int32)), .val (.int (3 : Int32)), .unset, .unset, .unset] (rv.toList ++ []))) (fun _ => rfl)
            obtain ⟨x303, rfl, gx303, S303⟩ := Q303
            have K304 : Keep h0 h303 [] := K218.trans K303 (fun _ q => nomatch q)
            have lt_x303 := S303.lt
            have w305 := w303.pure (mkF m 246 #[.val (.int p0), .val (.long p1), .second, .val (.int (p0 &&& (3 : Int32))), .val (.int ((((p0.toUInt32 >>> ((2 : Int32) &&& 31).toUInt32).toInt32) &&& (1 : Int32)) + (1 : Int32))), .val (.int ((((p0.toUInt32 >>> ((3 : Int32) &&& 31).toUInt32).toInt32) &&& (1 : Int32)) + (1 : Int32))), .val (.int ((((p0.toUInt32 >>> ((4 : Int32) &&& 31).toUInt32).toInt32) &&& (1 : Int32)) + (1 : Int32))), .val (.ref b11), .val (.int (3 : Int32)), .val (.int (1 : Int32)), .val (.int (3 : Int32)), .val (.ref x303), .unset, .unset] [(.int (1 : Int32)), (.ref b11)]) (fun X eT hZ hown k => by
                show Steps _ _ _ (State.setTop _ (mkF m 223 #[.val (.int p0), .val (.long p1), .second, .val (.int (p0 &&& (3 : Int32))), .val (.int ((((p0.toUInt32 >>> ((2 : Int32) &&& 31).toUInt32).toInt32) &&& (1 : Int32)) + (1 : Int32))), .val (.int ((((p0.toUInt32 >>> ((3 : Int32) &&& 31).toUInt32).toInt32) &&& (1 : Int32)) + (1 : Int32))), .val (.int ((((p0.toUInt32 >>> ((4 : Int32) &&& 31).toUInt32).toInt32) &&& (1 : Int32)) + (1 : Int32))), .val (.ref b11), .val (.int (3 : Int32)), .val (.int (1 : Int32)), .val (.int (3 : Int32)), .unset, .unset, .unset] [(.ref x303)])) _
                refine S.astore X.here hx (hb hby at_223) rfl #[.val (.int p0), .val (.long p1), .second, .val (.int (p0 &&& (3 : Int32))), .val (.int ((((p0.toUInt32 >>> ((2 : Int32) &&& 31).toUInt32).toInt32) &&& (1 : Int32)) + (1 : Int32))), .val (.int ((((p0.toUInt32 >>> ((3 : Int32) &&& 31).toUInt32).toInt32) &&& (1 : Int32)) + (1 : Int32))), .val (.int ((((p0.toUInt32 >>> ((4 : Int32) &&& 31).toUInt32).toInt32) &&& (1 : Int32)) + (1 : Int32))), .val (.ref b11), .val (.int (3 : Int32)), .val (.int (1 : Int32)), .val (.int (3 : Int32)), .val (.ref x303), .unset, .unset] rfl ?_
                refine S.iloadN X.here hx (hb hby at_225) rfl ?_
                refine S.iconst X.here hx (1 : Int32) (hb hby at_226) rfl ?_
                refine S.icmpYes X.here hx 237 (hb hby at_227) (feq (own_sh.2.2.1 hc198)).2 (by decide) (by decide) ?_
                refine S.iloadN X.here hx (hb hby at_237) rfl ?_
                refine S.iconst X.here hx (2 : Int32) (hb hby at_238) rfl ?_
                refine S.icmpNo X.here hx (hb hby at_239) (teq (own_sh.2.2.2.1 hc198 hc297)).2 ?_
                refine S.aload X.here hx (hb hby at_242) rfl rfl ?_
                refine S.iload X.here hx (hb hby at_244) rfl ?_
                exact k)
            have F306 := F302.keep K303 all0
            have F307 := U217.keep K303 nin0
            obtain ⟨v308, h308, Q308, K308, z308, w308⟩ := w305.callS hx (y := (⟨"com/example/bylaw/bylaw/TreePathParentPinLaw", "str", "([CI)Ljava/lang/String;"⟩ : MethodName)) (W := 0) (hw _ (List.mem_of_getElem? (i := 24) rfl)) (hw _ (List.mem_of_getElem? (i := 25) rfl)) (hw _ (List.mem_of_getElem? (i := 21) rfl)) (hw _ (List.mem_of_getElem? (i := 26) rfl)) (by decide) ((rmt1 l Z a0 hw b11 k11 (own_ch p1 (0 : Int32)) (47 : Int32) (own_ch p1 (2 : Int32)) (0 : Int32) (0 : Int32) (0 : Int32) (0 : Int32) (0 : Int32) h303 n0 (by omega) hG F306 F307 (own_ch_ok _ _).1 (by decide) (own_ch_ok _ _).1 (by decide) (by decide) (by decide) (by decide) (by decide)).pay w305.hZ (hw _ (List.mem_of_getElem? (i := 26) rfl)) (hw _ (List.mem_of_getElem? (i := 21) rfl)) (by decide) (by decide)) rfl (by rw [hml]; rfl) [] (lenOf pd_17 rfl) rfl (by show 2 * 0 + _ ≤ _; exact Nat.le_of_eq rfl) (hb hby at_246) (by decide) (by decide) (fun _ q => nomatch q) (fun rv => (mkF m 249 #[.val (.int p0), .val (.long p1), .second, .val (.int (p0 &&& (3 : Int32))), .val (.int ((((p0.toUInt32 >>> ((2 : Int32) &&& 31).toUInt32).toInt32) &&& (1 : Int32)) + (1 : Int32))), .val (.int ((((p0.toUInt32 >>> ((3 : Int32) &&& 31).toUInt32).toInt32) &&& (1 : Int32)) + (1 : Int32))), .val (.int ((((p0.toUInt32 >>> ((4 : Int32) &&& 31).toUInt32).toInt32) &&& (1 : Int32)) + (1 : Int32))), .val (.ref b11), .val (.int (3 : Int32)), .val (.int (1 : Int32)), .val (.int (3 : Int32)), .val (.ref x303), .unset, .unset] (rv.toList ++ []))) (fun _ => rfl)
            obtain ⟨x308, rfl, gx308, S308⟩ := Q308
            have K309 : Keep h0 h308 [] := K304.trans K308 (fun _ q => nomatch q)
            have lt_x308 := S308.lt
            have w310 := w308.pure (mkF m 263 #[.val (.int p0), .val (.long p1), .second, .val (.int (p0 &&& (3 : Int32))), .val (.int ((((p0.toUInt32 >>> ((2 : Int32) &&& 31).toUInt32).toInt32) &&& (1 : Int32)) + (1 : Int32))), .val (.int ((((p0.toUInt32 >>> ((3 : Int32) &&& 31).toUInt32).toInt32) &&& (1 : Int32)) + (1 : Int32))), .val (.int ((((p0.toUInt32 >>> ((4 : Int32) &&& 31).toUInt32).toInt32) &&& (1 : Int32)) + (1 : Int32))), .val (.ref b11), .val (.int (3 : Int32)), .val (.int (1 : Int32)), .val (.int (3 : Int32)), .val (.ref x303), .val (.ref x308), .unset] []) (fun X eT hZ hown k => by
                show Steps _ _ _ (State.setTop _ (mkF m 249 #[.val (.int p0), .val (.long p1), .second, .val (.int (p0 &&& (3 : Int32))), .val (.int ((((p0.toUInt32 >>> ((2 : Int32) &&& 31).toUInt32).toInt32) &&& (1 : Int32)) + (1 : Int32))), .val (.int ((((p0.toUInt32 >>> ((3 : Int32) &&& 31).toUInt32).toInt32) &&& (1 : Int32)) + (1 : Int32))), .val (.int ((((p0.toUInt32 >>> ((4 : Int32) &&& 31).toUInt32).toInt32) &&& (1 : Int32)) + (1 : Int32))), .val (.ref b11), .val (.int (3 : Int32)), .val (.int (1 : Int32)), .val (.int (3 : Int32)), .val (.ref x303), .unset, .unset] [(.ref x308)])) _
                refine S.astore X.here hx (hb hby at_249) rfl #[.val (.int p0), .val (.long p1), .second, .val (.int (p0 &&& (3 : Int32))), .val (.int ((((p0.toUInt32 >>> ((2 : Int32) &&& 31).toUInt32).toInt32) &&& (1 : Int32)) + (1 : Int32))), .val (.int ((((p0.toUInt32 >>> ((3 : Int32) &&& 31).toUInt32).toInt32) &&& (1 : Int32)) + (1 : Int32))), .val (.int ((((p0.toUInt32 >>> ((4 : Int32) &&& 31).toUInt32).toInt32) &&& (1 : Int32)) + (1 : Int32))), .val (.ref b11), .val (.int (3 : Int32)), .val (.int (1 : Int32)), .val (.int (3 : Int32)), .val (.ref x303), .val (.ref x308), .unset] rfl ?_
                refine S.goto X.here hx 263 (hb hby at_251) (by decide) (by decide) ?_
                exact k)
            have pp311 := own_pp_csc (own_ch p1 (0 : Int32)) (own_ch p1 (2 : Int32)) (own_ch_ok _ _).2 (own_ch_ok _ _).2
            have F312 := F306.keep K308 all0
            have F313 := S303.keep K308 all0
            exact ptT l Z a0 hw hE Bd hml p0 (p0 &&& (3 : Int32)) ((((p0.toUInt32 >>> ((2 : Int32) &&& 31).toUInt32).toInt32) &&& (1 : Int32)) + (1 : Int32)) ((((p0.toUInt32 >>> ((3 : Int32) &&& 31).toUInt32).toInt32) &&& (1 : Int32)) + (1 : Int32)) ((((p0.toUInt32 >>> ((4 : Int32) &&& 31).toUInt32).toInt32) &&& (1 : Int32)) + (1 : Int32)) (3 : Int32) (1 : Int32) (3 : Int32) p1 b11 x303 x308 [(own_ch p1 (0 : Int32)), (47 : Int32), (own_ch p1 (2 : Int32))] [(own_ch p1 (0 : Int32))] h0 n0 Z0 (w310.more (k := 16) (n := 160) (by decide) (by decide)) K309 (by omega) hG F312 (F313.more (by omega)) (S308.more (by omega)) pp311.1 pp311.2.1 pp311.2.2.1 pp311.2.2.2
          · have w314 := w296.pure (mkF m 171 #[.val (.int p0), .val (.long p1), .second, .val (.int (p0 &&& (3 : Int32))), .val (.int ((((p0.toUInt32 >>> ((2 : Int32) &&& 31).toUInt32).toInt32) &&& (1 : Int32)) + (1 : Int32))), .val (.int ((((p0.toUInt32 >>> ((3 : Int32) &&& 31).toUInt32).toInt32) &&& (1 : Int32)) + (1 : Int32))), .val (.int ((((p0.toUInt32 >>> ((4 : Int32) &&& 31).toUInt32).toInt32) &&& (1 : Int32)) + (1 : Int32))), .val (.ref b11), .val (.int (3 : Int32)), .val (.int (1 : Int32)), .val (.int (3 : Int32)), .unset, .unset, .unset] [(.int (47 : Int32)), (.int (3 : Int32)), (.ref b11)]) (fun X eT hZ hown k => by
                show Steps _ _ _ (State.setTop _ (mkF m 162 #[.val (.int p0), .val (.long p1), .second, .val (.int (p0 &&& (3 : Int32))), .val (.int ((((p0.toUInt32 >>> ((2 : Int32) &&& 31).toUInt32).toInt32) &&& (1 : Int32)) + (1 : Int32))), .val (.int ((((p0.toUInt32 >>> ((3 : Int32) &&& 31).toUInt32).toInt32) &&& (1 : Int32)) + (1 : Int32))), .val (.int ((((p0.toUInt32 >>> ((4 : Int32) &&& 31).toUInt32).toInt32) &&& (1 : Int32)) + (1 : Int32))), .val (.ref b11), .val (.int (3 : Int32)), .val (.int (1 : Int32)), .val (.int (3 : Int32)), .unset, .unset, .unset] [(.int (3 : Int32)), (.int (p0 &&& (3 : Int32)))])) _
                refine S.icmpNo X.here hx (hb hby at_162) (flt hc297).1 ?_
                refine S.aload X.here hx (hb hby at_165) rfl rfl ?_
                refine S.iload X.here hx (hb hby at_167) rfl ?_
                refine S.bipush X.here hx (47 : Int32) (hb hby at_169) rfl ?_
                exact k)
            obtain ⟨h315, W315, z315, V315, w315⟩ := w314.stC hx U217 3 rfl (Nat.le_of_ble_eq_true rfl) ⟨by decide, by decide⟩ rfl rfl (hb hby at_171) (by omega) (mkF m 172 #[.val (.int p0), .val (.long p1), .second, .val (.int (p0 &&& (3 : Int32))), .val (.int ((((p0.toUInt32 >>> ((2 : Int32) &&& 31).toUInt32).toInt32) &&& (1 : Int32)) + (1 : Int32))), .val (.int ((((p0.toUInt32 >>> ((3 : Int32) &&& 31).toUInt32).toInt32) &&& (1 : Int32)) + (1 : Int32))), .val (.int ((((p0.toUInt32 >>> ((4 : Int32) &&& 31).toUInt32).toInt32) &&& (1 : Int32)) + (1 : Int32))), .val (.ref b11), .val (.int (3 : Int32)), .val (.int (1 : Int32)), .val (.int (3 : Int32)), .unset, .unset, .unset] []) rfl
            rw [show nar .char (47 : Int32) = (47 : Int32) from rfl] at V315
            have U315 : Arv Z h315 b11 k11 .char (8 : Int32) [(.int (own_ch p1 (0 : Int32))), (.int (47 : Int32)), (.int (own_ch p1 (2 : Int32))), (.int (47 : Int32)), (.int (0 : Int32)), (.int (0 : Int32)), (.int (0 : Int32)), (.int (0 : Int32))] (.int (0 : Int32)) := V315
            have K316 : Keep h0 h315 [] := K218.wr W315 (Or.inr (by omega))
            have w317 := w315.pure (mkF m 184 #[.val (.int p0), .val (.long p1), .second, .val (.int (p0 &&& (3 : Int32))), .val (.int ((((p0.toUInt32 >>> ((2 : Int32) &&& 31).toUInt32).toInt32) &&& (1 : Int32)) + (1 : Int32))), .val (.int ((((p0.toUInt32 >>> ((3 : Int32) &&& 31).toUInt32).toInt32) &&& (1 : Int32)) + (1 : Int32))), .val (.int ((((p0.toUInt32 >>> ((4 : Int32) &&& 31).toUInt32).toInt32) &&& (1 : Int32)) + (1 : Int32))), .val (.ref b11), .val (.int (4 : Int32)), .val (.int (1 : Int32)), .val (.int (3 : Int32)), .unset, .unset, .unset] [(.int (4 : Int32)), (.long p1), (.int (4 : Int32)), (.ref b11)]) (fun X eT hZ hown k => by
                show Steps _ _ _ (State.setTop _ (mkF m 172 #[.val (.int p0), .val (.long p1), .second, .val (.int (p0 &&& (3 : Int32))), .val (.int ((((p0.toUInt32 >>> ((2 : Int32) &&& 31).toUInt32).toInt32) &&& (1 : Int32)) + (1 : Int32))), .val (.int ((((p0.toUInt32 >>> ((3 : Int32) &&& 31).toUInt32).toInt32) &&& (1 : Int32)) + (1 : Int32))), .val (.int ((((p0.toUInt32 >>> ((4 : Int32) &&& 31).toUInt32).toInt32) &&& (1 : Int32)) + (1 : Int32))), .val (.ref b11), .val (.int (3 : Int32)), .val (.int (1 : Int32)), .val (.int (3 : Int32)), .unset, .unset, .unset] [])) _
                refine S.iload X.here hx (hb hby at_172) rfl ?_
                refine S.iconst X.here hx (1 : Int32) (hb hby at_174) rfl ?_
                refine S.iaddV X.here hx (4 : Int32) (hb hby at_175) rfl ?_
                refine S.istore X.here hx (hb hby at_176) #[.val (.int p0), .val (.long p1), .second, .val (.int (p0 &&& (3 : Int32))), .val (.int ((((p0.toUInt32 >>> ((2 : Int32) &&& 31).toUInt32).toInt32) &&& (1 : Int32)) + (1 : Int32))), .val (.int ((((p0.toUInt32 >>> ((3 : Int32) &&& 31).toUInt32).toInt32) &&& (1 : Int32)) + (1 : Int32))), .val (.int ((((p0.toUInt32 >>> ((4 : Int32) &&& 31).toUInt32).toInt32) &&& (1 : Int32)) + (1 : Int32))), .val (.ref b11), .val (.int (4 : Int32)), .val (.int (1 : Int32)), .val (.int (3 : Int32)), .unset, .unset, .unset] rfl ?_
                refine S.aload X.here hx (hb hby at_178) rfl rfl ?_
                refine S.iload X.here hx (hb hby at_180) rfl ?_
                refine S.lloadN X.here hx (hb hby at_182) rfl ?_
                refine S.iconst X.here hx (4 : Int32) (hb hby at_183) rfl ?_
                exact k)
            obtain ⟨v318, h318, Q318, K318, z318, w318⟩ := w317.callS hx (y := (⟨"com/example/bylaw/bylaw/TreePathParentPinLaw", "ch", "(JI)C"⟩ : MethodName)) (W := 2) (hw _ (List.mem_of_getElem? (i := 19) rfl)) (hw _ (List.mem_of_getElem? (i := 20) rfl)) (hw _ (List.mem_of_getElem? (i := 21) rfl)) (hw _ (List.mem_of_getElem? (i := 22) rfl)) (by decide) ((rmch l Z a0 hw p1 (4 : Int32) h315 n0 (by omega)).pay w317.hZ (hw _ (List.mem_of_getElem? (i := 22) rfl)) (hw _ (List.mem_of_getElem? (i := 21) rfl)) (by decide) (by decide)) rfl (by rw [hml]; rfl) [(.int (4 : Int32)), (.ref b11)] (lenOf pd_16 rfl) rfl (by show 2 * 0 + _ ≤ _; exact Nat.le_of_eq rfl) (hb hby at_184) (by decide) (by decide) (fun _ q => nomatch q) (fun rv => (mkF m 187 #[.val (.int p0), .val (.long p1), .second, .val (.int (p0 &&& (3 : Int32))), .val (.int ((((p0.toUInt32 >>> ((2 : Int32) &&& 31).toUInt32).toInt32) &&& (1 : Int32)) + (1 : Int32))), .val (.int ((((p0.toUInt32 >>> ((3 : Int32) &&& 31).toUInt32).toInt32) &&& (1 : Int32)) + (1 : Int32))), .val (.int ((((p0.toUInt32 >>> ((4 : Int32) &&& 31).toUInt32).toInt32) &&& (1 : Int32)) + (1 : Int32))), .val (.ref b11), .val (.int (4 : Int32)), .val (.int (1 : Int32)), .val (.int (3 : Int32)), .unset, .unset, .unset] (rv.toList ++ [(.int (4 : Int32)), (.ref b11)]))) (fun _ => rfl)
            obtain ⟨rfl, rfl⟩ := Q318
            obtain ⟨h319, W319, z319, V319, w319⟩ := w318.stC hx U315 4 rfl (Nat.le_of_ble_eq_true rfl) ⟨by decide, by decide⟩ rfl rfl (hb hby at_187) (by omega) (mkF m 188 #[.val (.int p0), .val (.long p1), .second, .val (.int (p0 &&& (3 : Int32))), .val (.int ((((p0.toUInt32 >>> ((2 : Int32) &&& 31).toUInt32).toInt32) &&& (1 : Int32)) + (1 : Int32))), .val (.int ((((p0.toUInt32 >>> ((3 : Int32) &&& 31).toUInt32).toInt32) &&& (1 : Int32)) + (1 : Int32))), .val (.int ((((p0.toUInt32 >>> ((4 : Int32) &&& 31).toUInt32).toInt32) &&& (1 : Int32)) + (1 : Int32))), .val (.ref b11), .val (.int (4 : Int32)), .val (.int (1 : Int32)), .val (.int (3 : Int32)), .unset, .unset, .unset] []) rfl
            rw [nar_rng (own_ch_ok _ _).1] at V319
            have U319 : Arv Z h319 b11 k11 .char (8 : Int32) [(.int (own_ch p1 (0 : Int32))), (.int (47 : Int32)), (.int (own_ch p1 (2 : Int32))), (.int (47 : Int32)), (.int (own_ch p1 (4 : Int32))), (.int (0 : Int32)), (.int (0 : Int32)), (.int (0 : Int32))] (.int (0 : Int32)) := V319
            have K320 : Keep h0 h319 [] := K316.wr W319 (Or.inr (by omega))
            have w321 := w319.pure (mkF m 197 #[.val (.int p0), .val (.long p1), .second, .val (.int (p0 &&& (3 : Int32))), .val (.int ((((p0.toUInt32 >>> ((2 : Int32) &&& 31).toUInt32).toInt32) &&& (1 : Int32)) + (1 : Int32))), .val (.int ((((p0.toUInt32 >>> ((3 : Int32) &&& 31).toUInt32).toInt32) &&& (1 : Int32)) + (1 : Int32))), .val (.int ((((p0.toUInt32 >>> ((4 : Int32) &&& 31).toUInt32).toInt32) &&& (1 : Int32)) + (1 : Int32))), .val (.ref b11), .val (.int (5 : Int32)), .val (.int (1 : Int32)), .val (.int (3 : Int32)), .unset, .unset, .unset] [(.int (2 : Int32)), (.int ((((p0.toUInt32 >>> ((4 : Int32) &&& 31).toUInt32).toInt32) &&& (1 : Int32)) + (1 : Int32)))]) (fun X eT hZ hown k => by
                show Steps _ _ _ (State.setTop _ (mkF m 188 #[.val (.int p0), .val (.long p1), .second, .val (.int (p0 &&& (3 : Int32))), .val (.int ((((p0.toUInt32 >>> ((2 : Int32) &&& 31).toUInt32).toInt32) &&& (1 : Int32)) + (1 : Int32))), .val (.int ((((p0.toUInt32 >>> ((3 : Int32) &&& 31).toUInt32).toInt32) &&& (1 : Int32)) + (1 : Int32))), .val (.int ((((p0.toUInt32 >>> ((4 : Int32) &&& 31).toUInt32).toInt32) &&& (1 : Int32)) + (1 : Int32))), .val (.ref b11), .val (.int (4 : Int32)), .val (.int (1 : Int32)), .val (.int (3 : Int32)), .unset, .unset, .unset] [])) _
                refine S.iload X.here hx (hb hby at_188) rfl ?_
                refine S.iconst X.here hx (1 : Int32) (hb hby at_190) rfl ?_
                refine S.iaddV X.here hx (5 : Int32) (hb hby at_191) rfl ?_
                refine S.istore X.here hx (hb hby at_192) #[.val (.int p0), .val (.long p1), .second, .val (.int (p0 &&& (3 : Int32))), .val (.int ((((p0.toUInt32 >>> ((2 : Int32) &&& 31).toUInt32).toInt32) &&& (1 : Int32)) + (1 : Int32))), .val (.int ((((p0.toUInt32 >>> ((3 : Int32) &&& 31).toUInt32).toInt32) &&& (1 : Int32)) + (1 : Int32))), .val (.int ((((p0.toUInt32 >>> ((4 : Int32) &&& 31).toUInt32).toInt32) &&& (1 : Int32)) + (1 : Int32))), .val (.ref b11), .val (.int (5 : Int32)), .val (.int (1 : Int32)), .val (.int (3 : Int32)), .unset, .unset, .unset] rfl ?_
                refine S.iload X.here hx (hb hby at_194) rfl ?_
                refine S.iconst X.here hx (2 : Int32) (hb hby at_196) rfl ?_
                exact k)
            by_cases hc322 : ((((p0.toUInt32 >>> ((4 : Int32) &&& 31).toUInt32).toInt32) &&& (1 : Int32)) + (1 : Int32)) = (2 : Int32)
            · have w323 := w321.pure (mkF m 206 #[.val (.int p0), .val (.long p1), .second, .val (.int (p0 &&& (3 : Int32))), .val (.int ((((p0.toUInt32 >>> ((2 : Int32) &&& 31).toUInt32).toInt32) &&& (1 : Int32)) + (1 : Int32))), .val (.int ((((p0.toUInt32 >>> ((3 : Int32) &&& 31).toUInt32).toInt32) &&& (1 : Int32)) + (1 : Int32))), .val (.int ((((p0.toUInt32 >>> ((4 : Int32) &&& 31).toUInt32).toInt32) &&& (1 : Int32)) + (1 : Int32))), .val (.ref b11), .val (.int (5 : Int32)), .val (.int (1 : Int32)), .val (.int (3 : Int32)), .unset, .unset, .unset] [(.int (5 : Int32)), (.long p1), (.int (5 : Int32)), (.ref b11)]) (fun X eT hZ hown k => by
                  show Steps _ _ _ (State.setTop _ (mkF m 197 #[.val (.int p0), .val (.long p1), .second, .val (.int (p0 &&& (3 : Int32))), .val (.int ((((p0.toUInt32 >>> ((2 : Int32) &&& 31).toUInt32).toInt32) &&& (1 : Int32)) + (1 : Int32))), .val (.int ((((p0.toUInt32 >>> ((3 : Int32) &&& 31).toUInt32).toInt32) &&& (1 : Int32)) + (1 : Int32))), .val (.int ((((p0.toUInt32 >>> ((4 : Int32) &&& 31).toUInt32).toInt32) &&& (1 : Int32)) + (1 : Int32))), .val (.ref b11), .val (.int (5 : Int32)), .val (.int (1 : Int32)), .val (.int (3 : Int32)), .unset, .unset, .unset] [(.int (2 : Int32)), (.int ((((p0.toUInt32 >>> ((4 : Int32) &&& 31).toUInt32).toInt32) &&& (1 : Int32)) + (1 : Int32)))])) _
                  refine S.icmpNo X.here hx (hb hby at_197) (teq hc322).2 ?_
                  refine S.aload X.here hx (hb hby at_200) rfl rfl ?_
                  refine S.iload X.here hx (hb hby at_202) rfl ?_
                  refine S.lloadN X.here hx (hb hby at_204) rfl ?_
                  refine S.iconst X.here hx (5 : Int32) (hb hby at_205) rfl ?_
                  exact k)
              obtain ⟨v324, h324, Q324, K324, z324, w324⟩ := w323.callS hx (y := (⟨"com/example/bylaw/bylaw/TreePathParentPinLaw", "ch", "(JI)C"⟩ : MethodName)) (W := 2) (hw _ (List.mem_of_getElem? (i := 19) rfl)) (hw _ (List.mem_of_getElem? (i := 20) rfl)) (hw _ (List.mem_of_getElem? (i := 21) rfl)) (hw _ (List.mem_of_getElem? (i := 22) rfl)) (by decide) ((rmch l Z a0 hw p1 (5 : Int32) h319 n0 (by omega)).pay w323.hZ (hw _ (List.mem_of_getElem? (i := 22) rfl)) (hw _ (List.mem_of_getElem? (i := 21) rfl)) (by decide) (by decide)) rfl (by rw [hml]; rfl) [(.int (5 : Int32)), (.ref b11)] (lenOf pd_16 rfl) rfl (by show 2 * 0 + _ ≤ _; exact Nat.le_of_eq rfl) (hb hby at_206) (by decide) (by decide) (fun _ q => nomatch q) (fun rv => (mkF m 209 #[.val (.int p0), .val (.long p1), .second, .val (.int (p0 &&& (3 : Int32))), .val (.int ((((p0.toUInt32 >>> ((2 : Int32) &&& 31).toUInt32).toInt32) &&& (1 : Int32)) + (1 : Int32))), .val (.int ((((p0.toUInt32 >>> ((3 : Int32) &&& 31).toUInt32).toInt32) &&& (1 : Int32)) + (1 : Int32))), .val (.int ((((p0.toUInt32 >>> ((4 : Int32) &&& 31).toUInt32).toInt32) &&& (1 : Int32)) + (1 : Int32))), .val (.ref b11), .val (.int (5 : Int32)), .val (.int (1 : Int32)), .val (.int (3 : Int32)), .unset, .unset, .unset] (rv.toList ++ [(.int (5 : Int32)), (.ref b11)]))) (fun _ => rfl)
              obtain ⟨rfl, rfl⟩ := Q324
              obtain ⟨h325, W325, z325, V325, w325⟩ := w324.stC hx U319 5 rfl (Nat.le_of_ble_eq_true rfl) ⟨by decide, by decide⟩ rfl rfl (hb hby at_209) (by omega) (mkF m 210 #[.val (.int p0), .val (.long p1), .second, .val (.int (p0 &&& (3 : Int32))), .val (.int ((((p0.toUInt32 >>> ((2 : Int32) &&& 31).toUInt32).toInt32) &&& (1 : Int32)) + (1 : Int32))), .val (.int ((((p0.toUInt32 >>> ((3 : Int32) &&& 31).toUInt32).toInt32) &&& (1 : Int32)) + (1 : Int32))), .val (.int ((((p0.toUInt32 >>> ((4 : Int32) &&& 31).toUInt32).toInt32) &&& (1 : Int32)) + (1 : Int32))), .val (.ref b11), .val (.int (5 : Int32)), .val (.int (1 : Int32)), .val (.int (3 : Int32)), .unset, .unset, .unset] []) rfl
              rw [nar_rng (own_ch_ok _ _).1] at V325
              have U325 : Arv Z h325 b11 k11 .char (8 : Int32) [(.int (own_ch p1 (0 : Int32))), (.int (47 : Int32)), (.int (own_ch p1 (2 : Int32))), (.int (47 : Int32)), (.int (own_ch p1 (4 : Int32))), (.int (own_ch p1 (5 : Int32))), (.int (0 : Int32)), (.int (0 : Int32))] (.int (0 : Int32)) := V325
              have K326 : Keep h0 h325 [] := K320.wr W325 (Or.inr (by omega))
              have w327 := w325.pure (mkF m 220 #[.val (.int p0), .val (.long p1), .second, .val (.int (p0 &&& (3 : Int32))), .val (.int ((((p0.toUInt32 >>> ((2 : Int32) &&& 31).toUInt32).toInt32) &&& (1 : Int32)) + (1 : Int32))), .val (.int ((((p0.toUInt32 >>> ((3 : Int32) &&& 31).toUInt32).toInt32) &&& (1 : Int32)) + (1 : Int32))), .val (.int ((((p0.toUInt32 >>> ((4 : Int32) &&& 31).toUInt32).toInt32) &&& (1 : Int32)) + (1 : Int32))), .val (.ref b11), .val (.int (6 : Int32)), .val (.int (1 : Int32)), .val (.int (3 : Int32)), .unset, .unset, .unset] [(.int (6 : Int32)), (.ref b11)]) (fun X eT hZ hown k => by
                  show Steps _ _ _ (State.setTop _ (mkF m 210 #[.val (.int p0), .val (.long p1), .second, .val (.int (p0 &&& (3 : Int32))), .val (.int ((((p0.toUInt32 >>> ((2 : Int32) &&& 31).toUInt32).toInt32) &&& (1 : Int32)) + (1 : Int32))), .val (.int ((((p0.toUInt32 >>> ((3 : Int32) &&& 31).toUInt32).toInt32) &&& (1 : Int32)) + (1 : Int32))), .val (.int ((((p0.toUInt32 >>> ((4 : Int32) &&& 31).toUInt32).toInt32) &&& (1 : Int32)) + (1 : Int32))), .val (.ref b11), .val (.int (5 : Int32)), .val (.int (1 : Int32)), .val (.int (3 : Int32)), .unset, .unset, .unset] [])) _
                  refine S.iload X.here hx (hb hby at_210) rfl ?_
                  refine S.iconst X.here hx (1 : Int32) (hb hby at_212) rfl ?_
                  refine S.iaddV X.here hx (6 : Int32) (hb hby at_213) rfl ?_
                  refine S.istore X.here hx (hb hby at_214) #[.val (.int p0), .val (.long p1), .second, .val (.int (p0 &&& (3 : Int32))), .val (.int ((((p0.toUInt32 >>> ((2 : Int32) &&& 31).toUInt32).toInt32) &&& (1 : Int32)) + (1 : Int32))), .val (.int ((((p0.toUInt32 >>> ((3 : Int32) &&& 31).toUInt32).toInt32) &&& (1 : Int32)) + (1 : Int32))), .val (.int ((((p0.toUInt32 >>> ((4 : Int32) &&& 31).toUInt32).toInt32) &&& (1 : Int32)) + (1 : Int32))), .val (.ref b11), .val (.int (6 : Int32)), .val (.int (1 : Int32)), .val (.int (3 : Int32)), .unset, .unset, .unset] rfl ?_
                  refine S.aload X.here hx (hb hby at_216) rfl rfl ?_
                  refine S.iload X.here hx (hb hby at_218) rfl ?_
                  exact k)
              have F328 := X0.ext E11
              have F329 := F328.wr W15 (by omega)
              have F330 := F329.wr W213 (by omega)
              have F331 := F330.wr W217 (by omega)
              have F332 := F331.wr W315 (by omega)
              have F333 := F332.wr W319 (by omega)
              have F334 := F333.wr W325 (by omega)
              obtain ⟨v335, h335, Q335, K335, z335, w335⟩ := w327.callS hx (y := (⟨"com/example/bylaw/bylaw/TreePathParentPinLaw", "str", "([CI)Ljava/lang/String;"⟩ : MethodName)) (W := 0) (hw _ (List.mem_of_getElem? (i := 24) rfl)) (hw _ (List.mem_of_getElem? (i := 25) rfl)) (hw _ (List.mem_of_getElem? (i := 21) rfl)) (hw _ (List.mem_of_getElem? (i := 26) rfl)) (by decide) ((rmt6 l Z a0 hw b11 k11 (own_ch p1 (0 : Int32)) (47 : Int32) (own_ch p1 (2 : Int32)) (47 : Int32) (own_ch p1 (4 : Int32)) (own_ch p1 (5 : Int32)) (0 : Int32) (0 : Int32) h325 n0 (by omega) hG F334 U325 (own_ch_ok _ _).1 (by decide) (own_ch_ok _ _).1 (by decide) (own_ch_ok _ _).1 (own_ch_ok _ _).1 (by decide) (by decide)).pay w327.hZ (hw _ (List.mem_of_getElem? (i := 26) rfl)) (hw _ (List.mem_of_getElem? (i := 21) rfl)) (by decide) (by decide)) rfl (by rw [hml]; rfl) [] (lenOf pd_17 rfl) rfl (by show 2 * 0 + _ ≤ _; exact Nat.le_of_eq rfl) (hb hby at_220) (by decide) (by decide) (fun _ q => nomatch q) (fun rv => (mkF m 223 #[.val (.int p0), .val (.long p1), .second, .val (.int (p0 &&& (3 : Int32))), .val (.int ((((p0.toUInt32 >>> ((2 : Int32) &&& 31).toUInt32).toInt32) &&& (1 : Int32)) + (1 : Int32))), .val (.int ((((p0.toUInt32 >>> ((3 : Int32) &&& 31).toUInt32).toInt32) &&& (1 : Int32)) + (1 : Int32))), .val (.int ((((p0.toUInt32 >>> ((4 : Int32) &&& 31).toUInt32).toInt32) &&& (1 : Int32)) + (1 : Int32))), .val (.ref b11), .val (.int (6 : Int32)), .val (.int (1 : Int32)), .val (.int (3 : Int32)), .unset, .unset, .unset] (rv.toList ++ []))) (fun _ => rfl)
              obtain ⟨x335, rfl, gx335, S335⟩ := Q335
              have K336 : Keep h0 h335 [] := K326.trans K335 (fun _ q => nomatch q)
              have lt_x335 := S335.lt
              have w337 := w335.pure (mkF m 258 #[.val (.int p0), .val (.long p1), .second, .val (.int (p0 &&& (3 : Int32))), .val (.int ((((p0.toUInt32 >>> ((2 : Int32) &&& 31).toUInt32).toInt32) &&& (1 : Int32)) + (1 : Int32))), .val (.int ((((p0.toUInt32 >>> ((3 : Int32) &&& 31).toUInt32).toInt32) &&& (1 : Int32)) + (1 : Int32))), .val (.int ((((p0.toUInt32 >>> ((4 : Int32) &&& 31).toUInt32).toInt32) &&& (1 : Int32)) + (1 : Int32))), .val (.ref b11), .val (.int (6 : Int32)), .val (.int (1 : Int32)), .val (.int (3 : Int32)), .val (.ref x335), .unset, .unset] [(.int (3 : Int32)), (.ref b11)]) (fun X eT hZ hown k => by
                  show Steps _ _ _ (State.setTop _ (mkF m 223 #[.val (.int p0), .val (.long p1), .second, .val (.int (p0 &&& (3 : Int32))), .val (.int ((((p0.toUInt32 >>> ((2 : Int32) &&& 31).toUInt32).toInt32) &&& (1 : Int32)) + (1 : Int32))), .val (.int ((((p0.toUInt32 >>> ((3 : Int32) &&& 31).toUInt32).toInt32) &&& (1 : Int32)) + (1 : Int32))), .val (.int ((((p0.toUInt32 >>> ((4 : Int32) &&& 31).toUInt32).toInt32) &&& (1 : Int32)) + (1 : Int32))), .val (.ref b11), .val (.int (6 : Int32)), .val (.int (1 : Int32)), .val (.int (3 : Int32)), .unset, .unset, .unset] [(.ref x335)])) _
                  refine S.astore X.here hx (hb hby at_223) rfl #[.val (.int p0), .val (.long p1), .second, .val (.int (p0 &&& (3 : Int32))), .val (.int ((((p0.toUInt32 >>> ((2 : Int32) &&& 31).toUInt32).toInt32) &&& (1 : Int32)) + (1 : Int32))), .val (.int ((((p0.toUInt32 >>> ((3 : Int32) &&& 31).toUInt32).toInt32) &&& (1 : Int32)) + (1 : Int32))), .val (.int ((((p0.toUInt32 >>> ((4 : Int32) &&& 31).toUInt32).toInt32) &&& (1 : Int32)) + (1 : Int32))), .val (.ref b11), .val (.int (6 : Int32)), .val (.int (1 : Int32)), .val (.int (3 : Int32)), .val (.ref x335), .unset, .unset] rfl ?_
                  refine S.iloadN X.here hx (hb hby at_225) rfl ?_
                  refine S.iconst X.here hx (1 : Int32) (hb hby at_226) rfl ?_
                  refine S.icmpYes X.here hx 237 (hb hby at_227) (feq (own_sh.2.2.1 hc198)).2 (by decide) (by decide) ?_
                  refine S.iloadN X.here hx (hb hby at_237) rfl ?_
                  refine S.iconst X.here hx (2 : Int32) (hb hby at_238) rfl ?_
                  refine S.icmpYes X.here hx 254 (hb hby at_239) (feq (own_sh.2.2.2.2 hc297)).2 (by decide) (by decide) ?_
                  refine S.aload X.here hx (hb hby at_254) rfl rfl ?_
                  refine S.iload X.here hx (hb hby at_256) rfl ?_
                  exact k)
              have F338 := F334.keep K335 all0
              have F339 := U325.keep K335 nin0
              obtain ⟨v340, h340, Q340, K340, z340, w340⟩ := w337.callS hx (y := (⟨"com/example/bylaw/bylaw/TreePathParentPinLaw", "str", "([CI)Ljava/lang/String;"⟩ : MethodName)) (W := 0) (hw _ (List.mem_of_getElem? (i := 24) rfl)) (hw _ (List.mem_of_getElem? (i := 25) rfl)) (hw _ (List.mem_of_getElem? (i := 21) rfl)) (hw _ (List.mem_of_getElem? (i := 26) rfl)) (by decide) ((rmt3 l Z a0 hw b11 k11 (own_ch p1 (0 : Int32)) (47 : Int32) (own_ch p1 (2 : Int32)) (47 : Int32) (own_ch p1 (4 : Int32)) (own_ch p1 (5 : Int32)) (0 : Int32) (0 : Int32) h335 n0 (by omega) hG F338 F339 (own_ch_ok _ _).1 (by decide) (own_ch_ok _ _).1 (by decide) (own_ch_ok _ _).1 (own_ch_ok _ _).1 (by decide) (by decide)).pay w337.hZ (hw _ (List.mem_of_getElem? (i := 26) rfl)) (hw _ (List.mem_of_getElem? (i := 21) rfl)) (by decide) (by decide)) rfl (by rw [hml]; rfl) [] (lenOf pd_17 rfl) rfl (by show 2 * 0 + _ ≤ _; exact Nat.le_of_eq rfl) (hb hby at_258) (by decide) (by decide) (fun _ q => nomatch q) (fun rv => (mkF m 261 #[.val (.int p0), .val (.long p1), .second, .val (.int (p0 &&& (3 : Int32))), .val (.int ((((p0.toUInt32 >>> ((2 : Int32) &&& 31).toUInt32).toInt32) &&& (1 : Int32)) + (1 : Int32))), .val (.int ((((p0.toUInt32 >>> ((3 : Int32) &&& 31).toUInt32).toInt32) &&& (1 : Int32)) + (1 : Int32))), .val (.int ((((p0.toUInt32 >>> ((4 : Int32) &&& 31).toUInt32).toInt32) &&& (1 : Int32)) + (1 : Int32))), .val (.ref b11), .val (.int (6 : Int32)), .val (.int (1 : Int32)), .val (.int (3 : Int32)), .val (.ref x335), .unset, .unset] (rv.toList ++ []))) (fun _ => rfl)
              obtain ⟨x340, rfl, gx340, S340⟩ := Q340
              have K341 : Keep h0 h340 [] := K336.trans K340 (fun _ q => nomatch q)
              have lt_x340 := S340.lt
              have w342 := w340.pure (mkF m 263 #[.val (.int p0), .val (.long p1), .second, .val (.int (p0 &&& (3 : Int32))), .val (.int ((((p0.toUInt32 >>> ((2 : Int32) &&& 31).toUInt32).toInt32) &&& (1 : Int32)) + (1 : Int32))), .val (.int ((((p0.toUInt32 >>> ((3 : Int32) &&& 31).toUInt32).toInt32) &&& (1 : Int32)) + (1 : Int32))), .val (.int ((((p0.toUInt32 >>> ((4 : Int32) &&& 31).toUInt32).toInt32) &&& (1 : Int32)) + (1 : Int32))), .val (.ref b11), .val (.int (6 : Int32)), .val (.int (1 : Int32)), .val (.int (3 : Int32)), .val (.ref x335), .val (.ref x340), .unset] []) (fun X eT hZ hown k => by
                  show Steps _ _ _ (State.setTop _ (mkF m 261 #[.val (.int p0), .val (.long p1), .second, .val (.int (p0 &&& (3 : Int32))), .val (.int ((((p0.toUInt32 >>> ((2 : Int32) &&& 31).toUInt32).toInt32) &&& (1 : Int32)) + (1 : Int32))), .val (.int ((((p0.toUInt32 >>> ((3 : Int32) &&& 31).toUInt32).toInt32) &&& (1 : Int32)) + (1 : Int32))), .val (.int ((((p0.toUInt32 >>> ((4 : Int32) &&& 31).toUInt32).toInt32) &&& (1 : Int32)) + (1 : Int32))), .val (.ref b11), .val (.int (6 : Int32)), .val (.int (1 : Int32)), .val (.int (3 : Int32)), .val (.ref x335), .unset, .unset] [(.ref x340)])) _
                  refine S.astore X.here hx (hb hby at_261) rfl #[.val (.int p0), .val (.long p1), .second, .val (.int (p0 &&& (3 : Int32))), .val (.int ((((p0.toUInt32 >>> ((2 : Int32) &&& 31).toUInt32).toInt32) &&& (1 : Int32)) + (1 : Int32))), .val (.int ((((p0.toUInt32 >>> ((3 : Int32) &&& 31).toUInt32).toInt32) &&& (1 : Int32)) + (1 : Int32))), .val (.int ((((p0.toUInt32 >>> ((4 : Int32) &&& 31).toUInt32).toInt32) &&& (1 : Int32)) + (1 : Int32))), .val (.ref b11), .val (.int (6 : Int32)), .val (.int (1 : Int32)), .val (.int (3 : Int32)), .val (.ref x335), .val (.ref x340), .unset] rfl ?_
                  exact k)
              have pp343 := own_pp_cscscc (own_ch p1 (0 : Int32)) (own_ch p1 (2 : Int32)) (own_ch p1 (4 : Int32)) (own_ch p1 (5 : Int32)) (own_ch_ok _ _).2 (own_ch_ok _ _).2 (own_ch_ok _ _).2 (own_ch_ok _ _).2
              have F344 := F338.keep K340 all0
              have F345 := S335.keep K340 all0
              exact ptT l Z a0 hw hE Bd hml p0 (p0 &&& (3 : Int32)) ((((p0.toUInt32 >>> ((2 : Int32) &&& 31).toUInt32).toInt32) &&& (1 : Int32)) + (1 : Int32)) ((((p0.toUInt32 >>> ((3 : Int32) &&& 31).toUInt32).toInt32) &&& (1 : Int32)) + (1 : Int32)) ((((p0.toUInt32 >>> ((4 : Int32) &&& 31).toUInt32).toInt32) &&& (1 : Int32)) + (1 : Int32)) (6 : Int32) (1 : Int32) (3 : Int32) p1 b11 x335 x340 [(own_ch p1 (0 : Int32)), (47 : Int32), (own_ch p1 (2 : Int32)), (47 : Int32), (own_ch p1 (4 : Int32)), (own_ch p1 (5 : Int32))] [(own_ch p1 (0 : Int32)), (47 : Int32), (own_ch p1 (2 : Int32))] h0 n0 Z0 (w342.more (k := 16) (n := 160) (by decide) (by decide)) K341 (by omega) hG F344 (F345.more (by omega)) (S340.more (by omega)) pp343.1 pp343.2.1 pp343.2.2.1 pp343.2.2.2
            · have w346 := w321.pure (mkF m 220 #[.val (.int p0), .val (.long p1), .second, .val (.int (p0 &&& (3 : Int32))), .val (.int ((((p0.toUInt32 >>> ((2 : Int32) &&& 31).toUInt32).toInt32) &&& (1 : Int32)) + (1 : Int32))), .val (.int ((((p0.toUInt32 >>> ((3 : Int32) &&& 31).toUInt32).toInt32) &&& (1 : Int32)) + (1 : Int32))), .val (.int ((((p0.toUInt32 >>> ((4 : Int32) &&& 31).toUInt32).toInt32) &&& (1 : Int32)) + (1 : Int32))), .val (.ref b11), .val (.int (5 : Int32)), .val (.int (1 : Int32)), .val (.int (3 : Int32)), .unset, .unset, .unset] [(.int (5 : Int32)), (.ref b11)]) (fun X eT hZ hown k => by
                  show Steps _ _ _ (State.setTop _ (mkF m 197 #[.val (.int p0), .val (.long p1), .second, .val (.int (p0 &&& (3 : Int32))), .val (.int ((((p0.toUInt32 >>> ((2 : Int32) &&& 31).toUInt32).toInt32) &&& (1 : Int32)) + (1 : Int32))), .val (.int ((((p0.toUInt32 >>> ((3 : Int32) &&& 31).toUInt32).toInt32) &&& (1 : Int32)) + (1 : Int32))), .val (.int ((((p0.toUInt32 >>> ((4 : Int32) &&& 31).toUInt32).toInt32) &&& (1 : Int32)) + (1 : Int32))), .val (.ref b11), .val (.int (5 : Int32)), .val (.int (1 : Int32)), .val (.int (3 : Int32)), .unset, .unset, .unset] [(.int (2 : Int32)), (.int ((((p0.toUInt32 >>> ((4 : Int32) &&& 31).toUInt32).toInt32) &&& (1 : Int32)) + (1 : Int32)))])) _
                  refine S.icmpYes X.here hx 216 (hb hby at_197) (feq hc322).2 (by decide) (by decide) ?_
                  refine S.aload X.here hx (hb hby at_216) rfl rfl ?_
                  refine S.iload X.here hx (hb hby at_218) rfl ?_
                  exact k)
              have F347 := X0.ext E11
              have F348 := F347.wr W15 (by omega)
              have F349 := F348.wr W213 (by omega)
              have F350 := F349.wr W217 (by omega)
              have F351 := F350.wr W315 (by omega)
              have F352 := F351.wr W319 (by omega)
              obtain ⟨v353, h353, Q353, K353, z353, w353⟩ := w346.callS hx (y := (⟨"com/example/bylaw/bylaw/TreePathParentPinLaw", "str", "([CI)Ljava/lang/String;"⟩ : MethodName)) (W := 0) (hw _ (List.mem_of_getElem? (i := 24) rfl)) (hw _ (List.mem_of_getElem? (i := 25) rfl)) (hw _ (List.mem_of_getElem? (i := 21) rfl)) (hw _ (List.mem_of_getElem? (i := 26) rfl)) (by decide) ((rmt5 l Z a0 hw b11 k11 (own_ch p1 (0 : Int32)) (47 : Int32) (own_ch p1 (2 : Int32)) (47 : Int32) (own_ch p1 (4 : Int32)) (0 : Int32) (0 : Int32) (0 : Int32) h319 n0 (by omega) hG F352 U319 (own_ch_ok _ _).1 (by decide) (own_ch_ok _ _).1 (by decide) (own_ch_ok _ _).1 (by decide) (by decide) (by decide)).pay w346.hZ (hw _ (List.mem_of_getElem? (i := 26) rfl)) (hw _ (List.mem_of_getElem? (i := 21) rfl)) (by decide) (by decide)) rfl (by rw [hml]; rfl) [] (lenOf pd_17 rfl) rfl (by show 2 * 0 + _ ≤ _; exact Nat.le_of_eq rfl) (hb hby at_220) (by decide) (by decide) (fun _ q => nomatch q) (fun rv => (mkF m 223 #[.val (.int p0), .val (.long p1), .second, .val (.int (p0 &&& (3 : Int32))), .val (.int ((((p0.toUInt32 >>> ((2 : Int32) &&& 31).toUInt32).toInt32) &&& (1 : Int32)) + (1 : Int32))), .val (.int ((((p0.toUInt32 >>> ((3 : Int32) &&& 31).toUInt32).toInt32) &&& (1 : Int32)) + (1 : Int32))), .val (.int ((((p0.toUInt32 >>> ((4 : Int32) &&& 31).toUInt32).toInt32) &&& (1 : Int32)) + (1 : Int32))), .val (.ref b11), .val (.int (5 : Int32)), .val (.int (1 : Int32)), .val (.int (3 : Int32)), .unset, .unset, .unset] (rv.toList ++ []))) (fun _ => rfl)
              obtain ⟨x353, rfl, gx353, S353⟩ := Q353
              have K354 : Keep h0 h353 [] := K320.trans K353 (fun _ q => nomatch q)
              have lt_x353 := S353.lt
              have w355 := w353.pure (mkF m 258 #[.val (.int p0), .val (.long p1), .second, .val (.int (p0 &&& (3 : Int32))), .val (.int ((((p0.toUInt32 >>> ((2 : Int32) &&& 31).toUInt32).toInt32) &&& (1 : Int32)) + (1 : Int32))), .val (.int ((((p0.toUInt32 >>> ((3 : Int32) &&& 31).toUInt32).toInt32) &&& (1 : Int32)) + (1 : Int32))), .val (.int ((((p0.toUInt32 >>> ((4 : Int32) &&& 31).toUInt32).toInt32) &&& (1 : Int32)) + (1 : Int32))), .val (.ref b11), .val (.int (5 : Int32)), .val (.int (1 : Int32)), .val (.int (3 : Int32)), .val (.ref x353), .unset, .unset] [(.int (3 : Int32)), (.ref b11)]) (fun X eT hZ hown k => by
                  show Steps _ _ _ (State.setTop _ (mkF m 223 #[.val (.int p0), .val (.long p1), .second, .val (.int (p0 &&& (3 : Int32))), .val (.int ((((p0.toUInt32 >>> ((2 : Int32) &&& 31).toUInt32).toInt32) &&& (1 : Int32)) + (1 : Int32))), .val (.int ((((p0.toUInt32 >>> ((3 : Int32) &&& 31).toUInt32).toInt32) &&& (1 : Int32)) + (1 : Int32))), .val (.int ((((p0.toUInt32 >>> ((4 : Int32) &&& 31).toUInt32).toInt32) &&& (1 : Int32)) + (1 : Int32))), .val (.ref b11), .val (.int (5 : Int32)), .val (.int (1 : Int32)), .val (.int (3 : Int32)), .unset, .unset, .unset] [(.ref x353)])) _
                  refine S.astore X.here hx (hb hby at_223) rfl #[.val (.int p0), .val (.long p1), .second, .val (.int (p0 &&& (3 : Int32))), .val (.int ((((p0.toUInt32 >>> ((2 : Int32) &&& 31).toUInt32).toInt32) &&& (1 : Int32)) + (1 : Int32))), .val (.int ((((p0.toUInt32 >>> ((3 : Int32) &&& 31).toUInt32).toInt32) &&& (1 : Int32)) + (1 : Int32))), .val (.int ((((p0.toUInt32 >>> ((4 : Int32) &&& 31).toUInt32).toInt32) &&& (1 : Int32)) + (1 : Int32))), .val (.ref b11), .val (.int (5 : Int32)), .val (.int (1 : Int32)), .val (.int (3 : Int32)), .val (.ref x353), .unset, .unset] rfl ?_
                  refine S.iloadN X.here hx (hb hby at_225) rfl ?_
                  refine S.iconst X.here hx (1 : Int32) (hb hby at_226) rfl ?_
                  refine S.icmpYes X.here hx 237 (hb hby at_227) (feq (own_sh.2.2.1 hc198)).2 (by decide) (by decide) ?_
                  refine S.iloadN X.here hx (hb hby at_237) rfl ?_
                  refine S.iconst X.here hx (2 : Int32) (hb hby at_238) rfl ?_
                  refine S.icmpYes X.here hx 254 (hb hby at_239) (feq (own_sh.2.2.2.2 hc297)).2 (by decide) (by decide) ?_
                  refine S.aload X.here hx (hb hby at_254) rfl rfl ?_
                  refine S.iload X.here hx (hb hby at_256) rfl ?_
                  exact k)
              have F356 := F352.keep K353 all0
              have F357 := U319.keep K353 nin0
              obtain ⟨v358, h358, Q358, K358, z358, w358⟩ := w355.callS hx (y := (⟨"com/example/bylaw/bylaw/TreePathParentPinLaw", "str", "([CI)Ljava/lang/String;"⟩ : MethodName)) (W := 0) (hw _ (List.mem_of_getElem? (i := 24) rfl)) (hw _ (List.mem_of_getElem? (i := 25) rfl)) (hw _ (List.mem_of_getElem? (i := 21) rfl)) (hw _ (List.mem_of_getElem? (i := 26) rfl)) (by decide) ((rmt3 l Z a0 hw b11 k11 (own_ch p1 (0 : Int32)) (47 : Int32) (own_ch p1 (2 : Int32)) (47 : Int32) (own_ch p1 (4 : Int32)) (0 : Int32) (0 : Int32) (0 : Int32) h353 n0 (by omega) hG F356 F357 (own_ch_ok _ _).1 (by decide) (own_ch_ok _ _).1 (by decide) (own_ch_ok _ _).1 (by decide) (by decide) (by decide)).pay w355.hZ (hw _ (List.mem_of_getElem? (i := 26) rfl)) (hw _ (List.mem_of_getElem? (i := 21) rfl)) (by decide) (by decide)) rfl (by rw [hml]; rfl) [] (lenOf pd_17 rfl) rfl (by show 2 * 0 + _ ≤ _; exact Nat.le_of_eq rfl) (hb hby at_258) (by decide) (by decide) (fun _ q => nomatch q) (fun rv => (mkF m 261 #[.val (.int p0), .val (.long p1), .second, .val (.int (p0 &&& (3 : Int32))), .val (.int ((((p0.toUInt32 >>> ((2 : Int32) &&& 31).toUInt32).toInt32) &&& (1 : Int32)) + (1 : Int32))), .val (.int ((((p0.toUInt32 >>> ((3 : Int32) &&& 31).toUInt32).toInt32) &&& (1 : Int32)) + (1 : Int32))), .val (.int ((((p0.toUInt32 >>> ((4 : Int32) &&& 31).toUInt32).toInt32) &&& (1 : Int32)) + (1 : Int32))), .val (.ref b11), .val (.int (5 : Int32)), .val (.int (1 : Int32)), .val (.int (3 : Int32)), .val (.ref x353), .unset, .unset] (rv.toList ++ []))) (fun _ => rfl)
              obtain ⟨x358, rfl, gx358, S358⟩ := Q358
              have K359 : Keep h0 h358 [] := K354.trans K358 (fun _ q => nomatch q)
              have lt_x358 := S358.lt
              have w360 := w358.pure (mkF m 263 #[.val (.int p0), .val (.long p1), .second, .val (.int (p0 &&& (3 : Int32))), .val (.int ((((p0.toUInt32 >>> ((2 : Int32) &&& 31).toUInt32).toInt32) &&& (1 : Int32)) + (1 : Int32))), .val (.int ((((p0.toUInt32 >>> ((3 : Int32) &&& 31).toUInt32).toInt32) &&& (1 : Int32)) + (1 : Int32))), .val (.int ((((p0.toUInt32 >>> ((4 : Int32) &&& 31).toUInt32).toInt32) &&& (1 : Int32)) + (1 : Int32))), .val (.ref b11), .val (.int (5 : Int32)), .val (.int (1 : Int32)), .val (.int (3 : Int32)), .val (.ref x353), .val (.ref x358), .unset] []) (fun X eT hZ hown k => by
                  show Steps _ _ _ (State.setTop _ (mkF m 261 #[.val (.int p0), .val (.long p1), .second, .val (.int (p0 &&& (3 : Int32))), .val (.int ((((p0.toUInt32 >>> ((2 : Int32) &&& 31).toUInt32).toInt32) &&& (1 : Int32)) + (1 : Int32))), .val (.int ((((p0.toUInt32 >>> ((3 : Int32) &&& 31).toUInt32).toInt32) &&& (1 : Int32)) + (1 : Int32))), .val (.int ((((p0.toUInt32 >>> ((4 : Int32) &&& 31).toUInt32).toInt32) &&& (1 : Int32)) + (1 : Int32))), .val (.ref b11), .val (.int (5 : Int32)), .val (.int (1 : Int32)), .val (.int (3 : Int32)), .val (.ref x353), .unset, .unset] [(.ref x358)])) _
                  refine S.astore X.here hx (hb hby at_261) rfl #[.val (.int p0), .val (.long p1), .second, .val (.int (p0 &&& (3 : Int32))), .val (.int ((((p0.toUInt32 >>> ((2 : Int32) &&& 31).toUInt32).toInt32) &&& (1 : Int32)) + (1 : Int32))), .val (.int ((((p0.toUInt32 >>> ((3 : Int32) &&& 31).toUInt32).toInt32) &&& (1 : Int32)) + (1 : Int32))), .val (.int ((((p0.toUInt32 >>> ((4 : Int32) &&& 31).toUInt32).toInt32) &&& (1 : Int32)) + (1 : Int32))), .val (.ref b11), .val (.int (5 : Int32)), .val (.int (1 : Int32)), .val (.int (3 : Int32)), .val (.ref x353), .val (.ref x358), .unset] rfl ?_
                  exact k)
              have pp361 := own_pp_cscsc (own_ch p1 (0 : Int32)) (own_ch p1 (2 : Int32)) (own_ch p1 (4 : Int32)) (own_ch_ok _ _).2 (own_ch_ok _ _).2 (own_ch_ok _ _).2
              have F362 := F356.keep K358 all0
              have F363 := S353.keep K358 all0
              exact ptT l Z a0 hw hE Bd hml p0 (p0 &&& (3 : Int32)) ((((p0.toUInt32 >>> ((2 : Int32) &&& 31).toUInt32).toInt32) &&& (1 : Int32)) + (1 : Int32)) ((((p0.toUInt32 >>> ((3 : Int32) &&& 31).toUInt32).toInt32) &&& (1 : Int32)) + (1 : Int32)) ((((p0.toUInt32 >>> ((4 : Int32) &&& 31).toUInt32).toInt32) &&& (1 : Int32)) + (1 : Int32)) (5 : Int32) (1 : Int32) (3 : Int32) p1 b11 x353 x358 [(own_ch p1 (0 : Int32)), (47 : Int32), (own_ch p1 (2 : Int32)), (47 : Int32), (own_ch p1 (4 : Int32))] [(own_ch p1 (0 : Int32)), (47 : Int32), (own_ch p1 (2 : Int32))] h0 n0 Z0 (w360.more (k := 16) (n := 160) (by decide) (by decide)) K359 (by omega) hG F362 (F363.more (by omega)) (S358.more (by omega)) pp361.1 pp361.2.1 pp361.2.2.1 pp361.2.2.2
set_option maxRecDepth 65536 in
set_option maxHeartbeats 40000000 in
theorem comes_1 {Post : Tables → Env → Array Value → State → Outcome → State → Prop} (hpost : ∀ tb e args s v u, (limb_1_1.after args s (.returned v) u = true ∧ limb_1_2.after args s (.returned v) u = true ∧ True) → ReturnedEndW s (.returned v) u (Jvm.fieldLocs frame_1_writes args s ++ Jvm.arrayLocs frame_1_arrays args s ++ Jvm.staticLocs frame_1_statics s) 32 2240 → Post tb e args s (.returned v) u) :
    ArmFor flags0 classFile x code maxLocals ret World_1 tables_1 room_1 Calls_1 rest_1 Pre_1 Post := by
  intro l hfl _ _ p e ha hc hk s m args below hf hA hF happ hP
  obtain ⟨hcalls, hrest, hpre⟩ := hP
  obtain ⟨-, -, -, hnamed, -, -, -, hat⟩ := (Spec.applies_iff hf).mp happ
  obtain ⟨hg, hn⟩ := and_e (Cond.before_iff.mp (show (Jvm.Cond.and given_1 narrow_1).before args s = true from hpre))
  obtain ⟨g0, r0⟩ := and_e hg
  obtain ⟨g1, r1⟩ := and_e r0
  obtain ⟨w0, w1, rfl⟩ : ∃ w0 w1 : Value, args = #[w0, w1] := by
    have hs : args.size = 2 := by simpa [Cond.value, given_1] using g0
    obtain ⟨L⟩ := args
    match L, hs with
    | [w0, w1], _ => exact ⟨w0, w1, rfl⟩
  have hw := fun d (hd : d ∈ tables_1) => atoms_spec (ws := Jvm.Cond.code x code maxLocals ret :: tables_1) hat d (List.mem_cons_of_mem _ hd)
  have hfit : Fit s := fun {y c} hc i hi => by
    obtain ⟨ha, rfl⟩ := Array.getElem?_eq_some_iff.mp hc
    have q := List.all_eq_true.mp ((Array.all_eq_true_iff_forall_mem.mp hF) _ (Array.getElem_mem ha)) i (List.mem_range.mpr hi)
    simpa [Array.getElem?_eq_getElem hi] using q
  obtain ⟨i0, e0⟩ := is_v g1
  obtain rfl : w0 = (.int i0) := Option.some.inj e0
  obtain ⟨i1, e1⟩ := isL_v r1
  obtain rfl : w1 = (.long i1) := Option.some.inj e1
  obtain ⟨hsets, hown0⟩ := atoms_of _ (rest_1_c_eq ▸ (show rest_1_c.before _ s = true from hrest))
  have hG : SetsOk s := by
    have n5 := not_v (Cond.before_iff.mp (hsets _ (List.mem_of_getElem? (i := 2) rfl)))
    obtain ⟨i11, e10⟩ := is_v (Cond.before_iff.mp (hsets _ (List.mem_of_getElem? (i := 1) rfl)))
    obtain ⟨v13, e14, r15⟩ := isR_v (Cond.before_iff.mp (hsets _ (List.mem_of_getElem? (i := 8) rfl)))
    exact ⟨i11, v13, Sta.start e10 (Or.inl (hsets _ (List.mem_of_getElem? (i := 0) rfl))), gotF (Cond.eq_ints e10 (Term.int_eval (0))) n5, Sta.start e14 (Or.inl (hsets _ (List.mem_of_getElem? (i := 7) rfl))), r15⟩
  have hE : EW s _ consts_1 := (EW.cons (hw _ (List.mem_of_getElem? (i := 12) rfl)) (by decide) (EW.cons (hw _ (List.mem_of_getElem? (i := 0) rfl)) (by decide) EW.nil))
  have hC : CHv s consts_1 s.vm s.heap := CHv.start hE hcalls.1 (hsets _ (List.mem_of_getElem? (i := 2) rfl)) (hw _ (List.mem_of_getElem? (i := 3) rfl)) (hw _ (List.mem_of_getElem? (i := 2) rfl))
  obtain ⟨n, o, h1, h2, h3, _, L, rfl, ⟨rfl, -, N⟩, -, hq⟩ := rm0 l s _ hw hE tables_1 i0 i1 s.heap s.heap.size (Nat.le_refl _) hG (Old.start s) p e ha hc hk s m _ below hf ((Spec.applies_iff_loose hf).mp happ).1 ⟨rfl, State.Warmed39.refl s, rfl, hC, sf0⟩ trivial
  refine ⟨n, _, h1, h2, h3, hpost _ _ _ _ _ _ ⟨Cond.after_iff.mpr rfl, Cond.after_iff.mpr (eq_i res_at (Term.int_eval (1)) rfl), trivial⟩ ⟨hq.1, hq.2.1, hq.2.2.1, (hq.2.2.2.sift fun y hy => Or.inr (N y hy)).mono (by decide) (by decide)⟩⟩
theorem main_1_1 : Claimed_1_1 := comes_1 fun _ _ _ _ _ _ h hF => ⟨h.1, hF⟩
theorem main_1_2 : Claimed_1_2 := comes_1 fun _ _ _ _ _ _ h hF => ⟨h.2.1, hF⟩
end Jvm.Pilot.@@N@@
namespace Jvm.Pilot.@@N@@
open Jvm Jvm.ClassFile Sem Op Lib Jvm.Free Jvm.Stand Jvm.Pilot.@@N@@.Jvm.D
/-! MADE BY PROGRAM (witnessworld.py) out of the Statement's table words and the real class files: 23 classes; the members and pool entries that the words name. The judged class is class 1, her method 3. -/
namespace start1
open Jvm.ClassFile
def u (s : String) : CpInfo := .utf8 (stringToUtf16 s)
/-- a pool by its gaps: so many unusable entries, then the entry; so many at the end -/
def gap : Nat → List CpInfo → List CpInfo
  | 0, r => r
  | n + 1, r => .unusable :: gap n r
def poolList (es : List (Nat × CpInfo)) (last : Nat) : List CpInfo := es.foldr (fun e r => gap e.1 (e.2 :: r)) (gap last [])
def pool (es : List (Nat × CpInfo)) (last : Nat) : Array CpInfo := ⟨poolList es last⟩
def fileOf (pool : Array CpInfo) (this : Nat) (attrs : Array Attribute := #[]) (ms : Array MethodInfo := #[]) (fl : Nat := 33) (sup : Nat := 0) (ifs : Array Nat := #[]) (fds : Array FieldInfo := #[]) : ClassFile where
  minorVersion := 0
  majorVersion := 65
  constantPool := pool
  accessFlags := fl
  thisClass := this
  superClass := sup
  interfaces := ifs
  fields := fds
  methods := ms
  attributes := attrs
def plain (name : String) (sup : Option ClassId) : Class where
  name := name
  kind := .ordinary
  loader := none
  accessFlags := 33
  super := sup
  interfaces := #[]
  cf := none
  fields := #[]
  methods := #[]
  instanceTypes := #[]
  staticTypes := #[]
  resolved := #[]
  callSites := []
  init := .initialized
  statics := none
  mirror := none

def pool0 : Array CpInfo := pool [(5, u "<init>"), (0, u "()V"), (1, .class_ 10), (1, u "java/lang/Object")] 113

def k0c0 : Code := { maxStack := 0, maxLocals := 1, code := object_method_1_code, exceptionTable := #[], attributes := #[] }
def k0m0 : Method := { name := "<init>", desc := "()V", sig := { parameters := [], returnType := none }, accessFlags := 1, code := some k0c0 }
/-- java/lang/Object -/
def k0 : Class := { plain "java/lang/Object" none with
  accessFlags := 33
  interfaces := #[]
  cf := some (fileOf pool0 8 #[] #[{ accessFlags := 1, nameIndex := 5, descriptorIndex := 6, attributes := #[] }] 33 0 #[] #[])
  fields := #[]
  methods := #[k0m0]
  instanceTypes := #[]
  staticTypes := #[]
  resolved := Array.replicate 124 none
  statics := none }

def pool1 : Array CpInfo := pool [(2, .class_ 4), (1, u "java/lang/Object"), (0, u "<init>"), (0, u "()V"), (0, .long 255), (1, .class_ 10), (0, u "java/lang/String"), (0, .methodref 9 12), (0, .nameAndType 5 13), (0, u "([C)V"), (0, .string 15), (0, u "/"), (0, .methodref 17 18), (0, .class_ 19), (0, .nameAndType 20 21), (0, u "com/example/bylaw/bylaw/TreePath"), (0, u "parent"), (0, u "(Ljava/lang/String;)Ljava/lang/String;"), (0, .methodref 23 24), (0, .class_ 25), (0, .nameAndType 26 27), (0, u "com/example/bylaw/bylaw/TreePathParentPinLaw"), (0, u "ch"), (0, u "(JI)C"), (0, .methodref 23 29), (0, .nameAndType 30 31), (0, u "str"), (0, u "([CI)Ljava/lang/String;"), (0, .methodref 9 33), (0, .nameAndType 34 35), (0, u "equals"), (0, u "(Ljava/lang/Object;)Z"), (5, u "law"), (0, u "(IJ)Z")] 2

def k1m0 : Method := { name := "<init>", desc := "()V", sig := { parameters := [], returnType := none }, accessFlags := 2, code := none }
def k1c1 : Code := { maxStack := 4, maxLocals := 4, code := method_2_code, exceptionTable := #[], attributes := #[] }
def k1m1 : Method := { name := "ch", desc := "(JI)C", sig := { parameters := [.long, .int], returnType := some .char }, accessFlags := 10, code := some k1c1 }
def k1c2 : Code := { maxStack := 4, maxLocals := 3, code := method_3_code, exceptionTable := #[], attributes := #[] }
def k1m2 : Method := { name := "str", desc := "([CI)Ljava/lang/String;", sig := { parameters := [(.array .char), .int], returnType := some (.object "java/lang/String") }, accessFlags := 10, code := some k1c2 }
def k1c3 : Code := { maxStack := 5, maxLocals := 14, code := code, exceptionTable := #[], attributes := #[] }
def k1m3 : Method := { name := "law", desc := "(IJ)Z", sig := { parameters := [.int, .long], returnType := some .boolean }, accessFlags := 9, code := some k1c3 }
/-- com/example/bylaw/bylaw/TreePathParentPinLaw -/
def k1 : Class := { plain "com/example/bylaw/bylaw/TreePathParentPinLaw" (some 0) with
  accessFlags := 49
  interfaces := #[]
  cf := some (fileOf pool1 23 #[] #[{ accessFlags := 2, nameIndex := 5, descriptorIndex := 6, attributes := #[] }, { accessFlags := 10, nameIndex := 26, descriptorIndex := 27, attributes := #[] }, { accessFlags := 10, nameIndex := 30, descriptorIndex := 31, attributes := #[] }, { accessFlags := 9, nameIndex := 41, descriptorIndex := 42, attributes := #[] }] 49 2 #[] #[])
  fields := #[]
  methods := #[k1m0, k1m1, k1m2, k1m3]
  instanceTypes := #[]
  staticTypes := #[]
  resolved := Array.replicate 45 none
  statics := none }

def pool2 : Array CpInfo := pool [(1, .class_ 2), (0, u "java/io/Serializable"), (0, .class_ 4), (0, u "java/lang/Object")] 2

/-- java/io/Serializable -/
def k2 : Class := { plain "java/io/Serializable" (some 0) with
  accessFlags := 1537
  interfaces := #[]
  cf := some (fileOf pool2 1 #[] #[] 1537 3 #[] #[])
  fields := #[]
  methods := #[]
  instanceTypes := #[]
  staticTypes := #[]
  resolved := Array.replicate 7 none
  statics := none }

def pool3 : Array CpInfo := pool [(1, .class_ 2), (0, u "java/lang/Comparable"), (0, .class_ 4), (0, u "java/lang/Object")] 7

/-- java/lang/Comparable -/
def k3 : Class := { plain "java/lang/Comparable" (some 0) with
  accessFlags := 1537
  interfaces := #[]
  cf := some (fileOf pool3 1 #[] #[] 1537 3 #[] #[])
  fields := #[]
  methods := #[]
  instanceTypes := #[]
  staticTypes := #[]
  resolved := Array.replicate 12 none
  statics := none }

def pool4 : Array CpInfo := pool [(2, .class_ 4), (1, u "java/lang/CharSequence"), (42, .class_ 48), (0, u "java/lang/CharSequence$1CodePointIterator"), (10, .class_ 60), (0, u "java/lang/CharSequence$1CharIterator"), (5, .class_ 67), (0, u "java/lang/Object")] 63

/-- java/lang/CharSequence -/
def k4 : Class := { plain "java/lang/CharSequence" (some 0) with
  accessFlags := 1537
  interfaces := #[]
  cf := some (fileOf pool4 2 #[.nestMembers #[47, 59]] #[] 1537 66 #[] #[])
  fields := #[]
  methods := #[]
  instanceTypes := #[]
  staticTypes := #[]
  resolved := Array.replicate 131 none
  statics := none }

def pool5 : Array CpInfo := pool [(1, .class_ 2), (0, u "java/lang/constant/Constable"), (0, .class_ 4), (0, u "java/lang/Object")] 6

/-- java/lang/constant/Constable -/
def k5 : Class := { plain "java/lang/constant/Constable" (some 0) with
  accessFlags := 1537
  interfaces := #[]
  cf := some (fileOf pool5 1 #[] #[] 1537 3 #[] #[])
  fields := #[]
  methods := #[]
  instanceTypes := #[]
  staticTypes := #[]
  resolved := Array.replicate 11 none
  statics := none }

def pool6 : Array CpInfo := pool [(1, .class_ 2), (0, u "java/lang/constant/ConstantDesc"), (0, .class_ 4), (0, u "java/lang/Object")] 32

/-- java/lang/constant/ConstantDesc -/
def k6 : Class := { plain "java/lang/constant/ConstantDesc" (some 0) with
  accessFlags := 1537
  interfaces := #[]
  cf := some (fileOf pool6 1 #[] #[] 1537 3 #[] #[])
  fields := #[]
  methods := #[]
  instanceTypes := #[]
  staticTypes := #[]
  resolved := Array.replicate 37 none
  statics := none }

def pool7 : Array CpInfo := pool [(1, .methodref 2 3), (0, .class_ 4), (0, .nameAndType 5 6), (0, u "java/lang/Object"), (0, u "<init>"), (0, u "()V"), (2, .fieldref 10 11), (0, .class_ 12), (0, .nameAndType 13 14), (0, u "java/lang/String"), (0, u "value"), (0, u "[B"), (0, .fieldref 10 16), (0, .nameAndType 17 18), (0, u "coder"), (0, u "B"), (2, u "hash"), (0, u "I"), (2, u "hashIsZero"), (0, u "Z"), (0, .methodref 10 28), (0, .nameAndType 5 29), (0, u "([CIILjava/lang/Void;)V"), (8, .fieldref 10 39), (0, .nameAndType 40 26), (0, u "COMPACT_STRINGS"), (1, .class_ 44), (1, u "java/lang/StringUTF16"), (0, u "compress"), (1, .methodref 42 48), (0, .nameAndType 49 50), (0, u "coderFromArrayLen"), (0, u "([BI)B"), (46, u "([BII)I"), (9, .class_ 109), (1, u "java/lang/StringLatin1"), (32, u "()Z"), (34, .methodref 42 178), (0, .nameAndType 45 179), (0, u "([CII)[B"), (31, u "([BB)V"), (122, u "()I"), (0, .methodref 10 336), (0, .nameAndType 17 337), (0, u "()B"), (154, .methodref 10 493), (0, .nameAndType 494 142), (0, u "isLatin1"), (10, .methodref 10 506), (0, .nameAndType 507 334), (0, u "length"), (5, u "checkFromToIndex"), (7, .methodref 10 522), (0, .nameAndType 523 524), (0, u "checkBoundsBeginEnd"), (0, u "(III)V"), (16, .methodref 107 542), (0, .nameAndType 543 544), (0, u "equals"), (0, u "([B[B)Z"), (28, u "(Ljava/lang/Object;)Z"), (1, .class_ 576), (0, u "java/lang/CharSequence"), (22, u "CASE_INSENSITIVE_ORDER"), (0, u "Ljava/util/Comparator;"), (35, u "(II)I"), (4, .methodref 10 642), (0, .nameAndType 643 636), (0, u "lastIndexOf"), (0, .methodref 107 645), (0, .nameAndType 643 97), (37, u "substring"), (0, u "(II)Ljava/lang/String;"), (0, .methodref 107 686), (0, .nameAndType 687 688), (0, u "newString"), (0, u "([BII)Ljava/lang/String;"), (76, u "(I)I"), (244, u "([C)V"), (42, .fieldref 1054 1055), (0, .class_ 1056), (0, .nameAndType 1057 1058), (0, u "jdk/internal/util/Preconditions"), (0, u "SIOOBE_FORMATTER"), (0, u "Ljava/util/function/BiFunction;"), (3, .methodref 1054 1063), (0, .nameAndType 513 1064), (0, u "(IIILjava/util/function/BiFunction;)I"), (36, u "serialPersistentFields"), (0, u "[Ljava/io/ObjectStreamField;"), (0, .class_ 1104), (0, u "java/lang/String$CaseInsensitiveComparator"), (1, .class_ 1107), (0, u "java/io/Serializable"), (0, .class_ 1109), (0, u "java/lang/Comparable"), (0, .class_ 1111), (0, u "java/lang/constant/Constable"), (0, .class_ 1113), (0, u "java/lang/constant/ConstantDesc"), (2, u "serialVersionUID"), (0, u "J"), (3, u "REPL"), (0, u "C"), (2, u "LATIN1"), (1, u "UTF16")] 323

def k7m0 : Method := { name := "<init>", desc := "()V", sig := { parameters := [], returnType := none }, accessFlags := 1, code := none }
def k7c1 : Code := { maxStack := 5, maxLocals := 2, code := jdk_42_method_3_code, exceptionTable := #[], attributes := #[] }
def k7m1 : Method := { name := "<init>", desc := "([C)V", sig := { parameters := [(.array .char)], returnType := none }, accessFlags := 1, code := some k7c1 }
def k7c2 : Code := { maxStack := 2, maxLocals := 1, code := jdk_42_method_54_code, exceptionTable := #[], attributes := #[] }
def k7m2 : Method := { name := "length", desc := "()I", sig := { parameters := [], returnType := some .int }, accessFlags := 1, code := some k7c2 }
def k7c3 : Code := { maxStack := 2, maxLocals := 3, code := jdk_42_method_66_code, exceptionTable := #[], attributes := #[] }
def k7m3 : Method := { name := "equals", desc := "(Ljava/lang/Object;)Z", sig := { parameters := [(.object "java/lang/Object")], returnType := some .boolean }, accessFlags := 1, code := some k7c3 }
def k7c4 : Code := { maxStack := 4, maxLocals := 2, code := jdk_42_method_82_code, exceptionTable := #[], attributes := #[] }
def k7m4 : Method := { name := "lastIndexOf", desc := "(I)I", sig := { parameters := [.int], returnType := some .int }, accessFlags := 1, code := some k7c4 }
def k7c5 : Code := { maxStack := 3, maxLocals := 3, code := jdk_42_method_83_code, exceptionTable := #[], attributes := #[] }
def k7m5 : Method := { name := "lastIndexOf", desc := "(II)I", sig := { parameters := [.int, .int], returnType := some .int }, accessFlags := 1, code := some k7c5 }
def k7c6 : Code := { maxStack := 3, maxLocals := 5, code := jdk_42_method_92_code, exceptionTable := #[], attributes := #[] }
def k7m6 : Method := { name := "substring", desc := "(II)Ljava/lang/String;", sig := { parameters := [.int, .int], returnType := some (.object "java/lang/String") }, accessFlags := 1, code := some k7c6 }
def k7c7 : Code := { maxStack := 4, maxLocals := 6, code := jdk_42_method_149_code, exceptionTable := #[], attributes := #[] }
def k7m7 : Method := { name := "<init>", desc := "([CIILjava/lang/Void;)V", sig := { parameters := [(.array .char), .int, .int, (.object "java/lang/Void")], returnType := none }, accessFlags := 2, code := some k7c7 }
def k7c8 : Code := { maxStack := 2, maxLocals := 3, code := jdk_42_method_151_code, exceptionTable := #[], attributes := #[] }
def k7m8 : Method := { name := "<init>", desc := "([BB)V", sig := { parameters := [(.array .byte), .byte], returnType := none }, accessFlags := 0, code := some k7c8 }
def k7c9 : Code := { maxStack := 1, maxLocals := 1, code := jdk_42_method_152_code, exceptionTable := #[], attributes := #[] }
def k7m9 : Method := { name := "coder", desc := "()B", sig := { parameters := [], returnType := some .byte }, accessFlags := 0, code := some k7c9 }
def k7c10 : Code := { maxStack := 1, maxLocals := 1, code := jdk_42_method_154_code, exceptionTable := #[], attributes := #[] }
def k7m10 : Method := { name := "isLatin1", desc := "()Z", sig := { parameters := [], returnType := some .boolean }, accessFlags := 0, code := some k7c10 }
def k7c11 : Code := { maxStack := 4, maxLocals := 3, code := jdk_42_method_158_code, exceptionTable := #[], attributes := #[] }
def k7m11 : Method := { name := "checkBoundsBeginEnd", desc := "(III)V", sig := { parameters := [.int, .int, .int], returnType := none }, accessFlags := 8, code := some k7c11 }
/-- java/lang/String -/
def k7 : Class := { plain "java/lang/String" (some 0) with
  accessFlags := 49
  interfaces := #[2, 3, 4, 5, 6]
  cf := some (fileOf pool7 10 #[.nestMembers #[1103]] #[{ accessFlags := 1, nameIndex := 5, descriptorIndex := 6, attributes := #[] }, { accessFlags := 1, nameIndex := 5, descriptorIndex := 1010, attributes := #[] }, { accessFlags := 1, nameIndex := 507, descriptorIndex := 334, attributes := #[] }, { accessFlags := 1, nameIndex := 543, descriptorIndex := 573, attributes := #[] }, { accessFlags := 1, nameIndex := 643, descriptorIndex := 765, attributes := #[] }, { accessFlags := 1, nameIndex := 643, descriptorIndex := 636, attributes := #[] }, { accessFlags := 1, nameIndex := 683, descriptorIndex := 684, attributes := #[] }, { accessFlags := 2, nameIndex := 5, descriptorIndex := 29, attributes := #[] }, { accessFlags := 0, nameIndex := 5, descriptorIndex := 211, attributes := #[] }, { accessFlags := 0, nameIndex := 17, descriptorIndex := 337, attributes := #[] }, { accessFlags := 0, nameIndex := 494, descriptorIndex := 142, attributes := #[] }, { accessFlags := 8, nameIndex := 523, descriptorIndex := 524, attributes := #[] }] 49 2 #[1106, 1108, 575, 1110, 1112] #[{ accessFlags := 18, nameIndex := 13, descriptorIndex := 14, attributes := #[] }, { accessFlags := 18, nameIndex := 17, descriptorIndex := 18, attributes := #[] }, { accessFlags := 2, nameIndex := 21, descriptorIndex := 22, attributes := #[] }, { accessFlags := 2, nameIndex := 25, descriptorIndex := 26, attributes := #[] }, { accessFlags := 26, nameIndex := 1116, descriptorIndex := 1117, attributes := #[] }, { accessFlags := 24, nameIndex := 40, descriptorIndex := 26, attributes := #[] }, { accessFlags := 26, nameIndex := 1101, descriptorIndex := 1102, attributes := #[] }, { accessFlags := 26, nameIndex := 1121, descriptorIndex := 1122, attributes := #[] }, { accessFlags := 25, nameIndex := 599, descriptorIndex := 600, attributes := #[] }, { accessFlags := 24, nameIndex := 1125, descriptorIndex := 18, attributes := #[] }, { accessFlags := 24, nameIndex := 1127, descriptorIndex := 18, attributes := #[] }])
  fields := #[{ name := "value", type := (.array .byte), accessFlags := 18, slot := 0, constantValue := 0 }, { name := "coder", type := .byte, accessFlags := 18, slot := 1, constantValue := 0 }, { name := "hash", type := .int, accessFlags := 2, slot := 2, constantValue := 0 }, { name := "hashIsZero", type := .boolean, accessFlags := 2, slot := 3, constantValue := 0 }, { name := "serialVersionUID", type := .long, accessFlags := 26, slot := 0, constantValue := 0 }, { name := "COMPACT_STRINGS", type := .boolean, accessFlags := 24, slot := 1, constantValue := 0 }, { name := "serialPersistentFields", type := (.array (.object "java/io/ObjectStreamField")), accessFlags := 26, slot := 2, constantValue := 0 }, { name := "REPL", type := .char, accessFlags := 26, slot := 3, constantValue := 0 }, { name := "CASE_INSENSITIVE_ORDER", type := (.object "java/util/Comparator"), accessFlags := 25, slot := 4, constantValue := 0 }, { name := "LATIN1", type := .byte, accessFlags := 24, slot := 5, constantValue := 0 }, { name := "UTF16", type := .byte, accessFlags := 24, slot := 6, constantValue := 0 }]
  methods := #[k7m0, k7m1, k7m2, k7m3, k7m4, k7m5, k7m6, k7m7, k7m8, k7m9, k7m10, k7m11]
  instanceTypes := #[(.array .byte), .byte, .int, .boolean]
  staticTypes := #[.long, .boolean, (.array (.object "java/io/ObjectStreamField")), .char, (.object "java/util/Comparator"), .byte, .byte]
  resolved := Array.replicate 1451 none
  statics := some 0 }

def pool8 : Array CpInfo := pool [(2, .class_ 4), (1, u "java/lang/Object"), (0, u "<init>"), (0, u "()V"), (0, .class_ 8), (0, u "com/example/bylaw/bylaw/TreePath"), (0, .string 10), (0, u "/"), (0, .methodref 12 13), (0, .class_ 14), (0, .nameAndType 15 16), (0, u "java/lang/String"), (0, u "equals"), (0, u "(Ljava/lang/Object;)Z"), (20, u "(Ljava/lang/String;)Ljava/lang/String;"), (16, u "parent"), (0, .methodref 12 56), (0, .nameAndType 57 58), (0, u "lastIndexOf"), (0, u "(I)I"), (0, .methodref 12 60), (0, .nameAndType 61 62), (0, u "substring"), (0, u "(II)Ljava/lang/String;"), (0, u "ROOT"), (0, u "Ljava/lang/String;")] 28

def k8m0 : Method := { name := "<init>", desc := "()V", sig := { parameters := [], returnType := none }, accessFlags := 2, code := none }
def k8c1 : Code := { maxStack := 3, maxLocals := 2, code := prog_19_method_5_code, exceptionTable := #[], attributes := #[] }
def k8m1 : Method := { name := "parent", desc := "(Ljava/lang/String;)Ljava/lang/String;", sig := { parameters := [(.object "java/lang/String")], returnType := some (.object "java/lang/String") }, accessFlags := 8, code := some k8c1 }
/-- com/example/bylaw/bylaw/TreePath -/
def k8 : Class := { plain "com/example/bylaw/bylaw/TreePath" (some 0) with
  accessFlags := 32
  interfaces := #[]
  cf := some (fileOf pool8 7 #[] #[{ accessFlags := 2, nameIndex := 5, descriptorIndex := 6, attributes := #[] }, { accessFlags := 8, nameIndex := 54, descriptorIndex := 37, attributes := #[] }] 32 2 #[] #[{ accessFlags := 24, nameIndex := 63, descriptorIndex := 64, attributes := #[] }])
  fields := #[{ name := "ROOT", type := (.object "java/lang/String"), accessFlags := 24, slot := 0, constantValue := 0 }]
  methods := #[k8m0, k8m1]
  instanceTypes := #[]
  staticTypes := #[(.object "java/lang/String")]
  resolved := Array.replicate 93 none
  statics := none }

def pool9 : Array CpInfo := pool [(6, .class_ 8), (1, u "java/lang/Object"), (0, u "<init>"), (0, u "()V"), (1, .class_ 14), (1, u "java/lang/StringUTF16"), (31, u "$assertionsDisabled"), (0, u "Z"), (13, u "HI_BYTE_SHIFT"), (0, u "I"), (2, u "LO_BYTE_SHIFT"), (49, .methodref 12 116), (0, .nameAndType 117 118), (0, u "compress"), (0, u "([CI[BII)I"), (3, u "([CII)[B"), (138, u "coderFromArrayLen"), (0, u "([BI)B"), (106, .class_ 371), (1, u "java/lang/StringUTF16$LinesSpliterator"), (58, u "MAX_LENGTH"), (196, .class_ 628), (0, u "java/lang/StringUTF16$CodePointsSpliterator"), (0, .class_ 630), (0, u "java/lang/StringUTF16$CharsSpliterator")] 4

def k9m0 : Method := { name := "<init>", desc := "()V", sig := { parameters := [], returnType := none }, accessFlags := 0, code := none }
def k9c1 : Code := { maxStack := 2, maxLocals := 2, code := jdk_52_method_15_code, exceptionTable := #[], attributes := #[] }
def k9m1 : Method := { name := "coderFromArrayLen", desc := "([BI)B", sig := { parameters := [(.array .byte), .int], returnType := some .byte }, accessFlags := 8, code := some k9c1 }
def k9c2 : Code := { maxStack := 5, maxLocals := 6, code := jdk_52_method_16_code, exceptionTable := #[], attributes := #[] }
def k9m2 : Method := { name := "compress", desc := "([CII)[B", sig := { parameters := [(.array .char), .int, .int], returnType := some (.array .byte) }, accessFlags := 9, code := some k9c2 }
def k9c3 : Code := { maxStack := 3, maxLocals := 7, code := jdk_52_method_21_code, exceptionTable := #[], attributes := #[] }
def k9m3 : Method := { name := "compress", desc := "([CI[BII)I", sig := { parameters := [(.array .char), .int, (.array .byte), .int, .int], returnType := some .int }, accessFlags := 9, code := some k9c3 }
/-- java/lang/StringUTF16 -/
def k9 : Class := { plain "java/lang/StringUTF16" (some 0) with
  accessFlags := 48
  interfaces := #[]
  cf := some (fileOf pool9 12 #[.nestMembers #[627, 629, 369]] #[{ accessFlags := 0, nameIndex := 9, descriptorIndex := 10, attributes := #[] }, { accessFlags := 8, nameIndex := 261, descriptorIndex := 262, attributes := #[] }, { accessFlags := 9, nameIndex := 117, descriptorIndex := 122, attributes := #[] }, { accessFlags := 9, nameIndex := 117, descriptorIndex := 118, attributes := #[] }] 48 6 #[] #[{ accessFlags := 26, nameIndex := 61, descriptorIndex := 62, attributes := #[] }, { accessFlags := 26, nameIndex := 65, descriptorIndex := 62, attributes := #[] }, { accessFlags := 24, nameIndex := 430, descriptorIndex := 62, attributes := #[] }, { accessFlags := 4120, nameIndex := 46, descriptorIndex := 47, attributes := #[] }])
  fields := #[{ name := "HI_BYTE_SHIFT", type := .int, accessFlags := 26, slot := 0, constantValue := 0 }, { name := "LO_BYTE_SHIFT", type := .int, accessFlags := 26, slot := 1, constantValue := 0 }, { name := "MAX_LENGTH", type := .int, accessFlags := 24, slot := 2, constantValue := 0 }, { name := "$assertionsDisabled", type := .boolean, accessFlags := 4120, slot := 3, constantValue := 0 }]
  methods := #[k9m0, k9m1, k9m2, k9m3]
  instanceTypes := #[]
  staticTypes := #[.int, .int, .int, .boolean]
  resolved := Array.replicate 635 none
  statics := none }

def pool10 : Array CpInfo := pool [(1, .class_ 2), (0, u "java/lang/String"), (1, .class_ 6), (1, u "java/lang/Object"), (0, u "<init>"), (0, u "()V"), (5, .class_ 16), (1, u "java/lang/StringLatin1"), (21, .methodref 39 40), (0, .class_ 41), (0, .nameAndType 42 43), (0, u "java/lang/Math"), (0, u "min"), (0, u "(II)I"), (44, .methodref 14 89), (0, .nameAndType 90 91), (0, u "canEncode"), (0, u "(I)Z"), (20, .methodref 1 113), (0, .nameAndType 7 114), (0, u "([BB)V"), (6, u "$assertionsDisabled"), (0, u "Z"), (8, .class_ 133), (1, u "java/util/Arrays"), (62, u "newString"), (0, u "([BII)Ljava/lang/String;"), (23, .class_ 223), (1, u "java/lang/StringLatin1$LinesSpliterator"), (8, .methodref 131 233), (0, .nameAndType 234 235), (0, u "copyOfRange"), (0, u "([BII)[B"), (25, u "([BII)I"), (19, u "equals"), (0, u "([B[B)Z"), (26, u "lastIndexOf"), (80, .class_ 391), (0, u "java/lang/StringLatin1$CharsSpliterator")] 3

def k10m0 : Method := { name := "<init>", desc := "()V", sig := { parameters := [], returnType := none }, accessFlags := 0, code := none }
def k10c1 : Code := { maxStack := 2, maxLocals := 1, code := jdk_43_method_4_code, exceptionTable := #[], attributes := #[] }
def k10m1 : Method := { name := "canEncode", desc := "(I)Z", sig := { parameters := [.int], returnType := some .boolean }, accessFlags := 9, code := some k10c1 }
def k10c2 : Code := { maxStack := 3, maxLocals := 3, code := jdk_43_method_13_code, exceptionTable := #[], attributes := #[] }
def k10m2 : Method := { name := "equals", desc := "([B[B)Z", sig := { parameters := [(.array .byte), (.array .byte)], returnType := some .boolean }, accessFlags := 9, code := some k10c2 }
def k10c3 : Code := { maxStack := 3, maxLocals := 4, code := jdk_43_method_27_code, exceptionTable := #[], attributes := #[] }
def k10m3 : Method := { name := "lastIndexOf", desc := "([BII)I", sig := { parameters := [(.array .byte), .int, .int], returnType := some .int }, accessFlags := 9, code := some k10c3 }
def k10c4 : Code := { maxStack := 6, maxLocals := 3, code := jdk_43_method_47_code, exceptionTable := #[], attributes := #[] }
def k10m4 : Method := { name := "newString", desc := "([BII)Ljava/lang/String;", sig := { parameters := [(.array .byte), .int, .int], returnType := some (.object "java/lang/String") }, accessFlags := 9, code := some k10c4 }
/-- java/lang/StringLatin1 -/
def k10 : Class := { plain "java/lang/StringLatin1" (some 0) with
  accessFlags := 48
  interfaces := #[]
  cf := some (fileOf pool10 14 #[.nestMembers #[390, 221]] #[{ accessFlags := 0, nameIndex := 7, descriptorIndex := 8, attributes := #[] }, { accessFlags := 9, nameIndex := 90, descriptorIndex := 91, attributes := #[] }, { accessFlags := 9, nameIndex := 281, descriptorIndex := 282, attributes := #[] }, { accessFlags := 9, nameIndex := 309, descriptorIndex := 261, attributes := #[] }, { accessFlags := 9, nameIndex := 196, descriptorIndex := 197, attributes := #[] }] 48 4 #[] #[{ accessFlags := 4120, nameIndex := 121, descriptorIndex := 122, attributes := #[] }])
  fields := #[{ name := "$assertionsDisabled", type := .boolean, accessFlags := 4120, slot := 0, constantValue := 0 }]
  methods := #[k10m0, k10m1, k10m2, k10m3, k10m4]
  instanceTypes := #[]
  staticTypes := #[.boolean]
  resolved := Array.replicate 395 none
  statics := none }

def pool11 : Array CpInfo := pool [(1, .class_ 2), (0, u "java/lang/Math"), (1, .class_ 6), (1, u "java/lang/Object"), (0, u "<init>"), (0, u "()V"), (89, .class_ 100), (1, u "java/lang/Math$RandomNumberGeneratorHolder"), (71, u "negativeZeroFloatBits"), (0, u "J"), (2, u "negativeZeroDoubleBits"), (24, u "min"), (43, u "$assertionsDisabled"), (0, u "Z"), (88, u "(II)I"), (2, u "twoToTheDoubleScaleDown"), (0, u "D"), (4, u "twoToTheDoubleScaleUp"), (9, u "E"), (3, u "PI"), (2, u "TAU"), (2, u "DEGREES_TO_RADIANS"), (0, u "RADIANS_TO_DEGREES")] 94

def k11m0 : Method := { name := "<init>", desc := "()V", sig := { parameters := [], returnType := none }, accessFlags := 2, code := none }
def k11c1 : Code := { maxStack := 2, maxLocals := 2, code := jdk_29_method_69_code, exceptionTable := #[], attributes := #[] }
def k11m1 : Method := { name := "min", desc := "(II)I", sig := { parameters := [.int, .int], returnType := some .int }, accessFlags := 9, code := some k11c1 }
/-- java/lang/Math -/
def k11 : Class := { plain "java/lang/Math" (some 0) with
  accessFlags := 49
  interfaces := #[]
  cf := some (fileOf pool11 1 #[.nestMembers #[98]] #[{ accessFlags := 2, nameIndex := 7, descriptorIndex := 8, attributes := #[] }, { accessFlags := 9, nameIndex := 201, descriptorIndex := 335, attributes := #[] }] 49 4 #[] #[{ accessFlags := 25, nameIndex := 354, descriptorIndex := 339, attributes := #[] }, { accessFlags := 25, nameIndex := 358, descriptorIndex := 339, attributes := #[] }, { accessFlags := 25, nameIndex := 361, descriptorIndex := 339, attributes := #[] }, { accessFlags := 26, nameIndex := 364, descriptorIndex := 339, attributes := #[] }, { accessFlags := 26, nameIndex := 365, descriptorIndex := 339, attributes := #[] }, { accessFlags := 26, nameIndex := 172, descriptorIndex := 173, attributes := #[] }, { accessFlags := 26, nameIndex := 176, descriptorIndex := 173, attributes := #[] }, { accessFlags := 8, nameIndex := 344, descriptorIndex := 339, attributes := #[] }, { accessFlags := 8, nameIndex := 338, descriptorIndex := 339, attributes := #[] }, { accessFlags := 4120, nameIndex := 245, descriptorIndex := 246, attributes := #[] }])
  fields := #[{ name := "E", type := .double, accessFlags := 25, slot := 0, constantValue := 0 }, { name := "PI", type := .double, accessFlags := 25, slot := 1, constantValue := 0 }, { name := "TAU", type := .double, accessFlags := 25, slot := 2, constantValue := 0 }, { name := "DEGREES_TO_RADIANS", type := .double, accessFlags := 26, slot := 3, constantValue := 0 }, { name := "RADIANS_TO_DEGREES", type := .double, accessFlags := 26, slot := 4, constantValue := 0 }, { name := "negativeZeroFloatBits", type := .long, accessFlags := 26, slot := 5, constantValue := 0 }, { name := "negativeZeroDoubleBits", type := .long, accessFlags := 26, slot := 6, constantValue := 0 }, { name := "twoToTheDoubleScaleUp", type := .double, accessFlags := 8, slot := 7, constantValue := 0 }, { name := "twoToTheDoubleScaleDown", type := .double, accessFlags := 8, slot := 8, constantValue := 0 }, { name := "$assertionsDisabled", type := .boolean, accessFlags := 4120, slot := 9, constantValue := 0 }]
  methods := #[k11m0, k11m1]
  instanceTypes := #[]
  staticTypes := #[.double, .double, .double, .double, .double, .long, .long, .double, .double, .boolean]
  resolved := Array.replicate 460 none
  statics := none }

def pool12 : Array CpInfo := pool [(2, .class_ 4), (1, u "java/lang/Object"), (0, u "<init>"), (0, u "()V"), (17, .class_ 26), (1, u "jdk/internal/util/Preconditions"), (20, u "checkFromToIndex"), (7, .class_ 56), (0, u "jdk/internal/util/Preconditions$4"), (57, .class_ 115), (0, u "jdk/internal/util/Preconditions$1"), (7, u "SIOOBE_FORMATTER"), (0, u "Ljava/util/function/BiFunction;"), (0, .class_ 126), (0, u "jdk/internal/util/Preconditions$2"), (3, u "AIOOBE_FORMATTER"), (0, .class_ 132), (0, u "jdk/internal/util/Preconditions$3"), (3, u "IOOBE_FORMATTER"), (46, u "(IIILjava/util/function/BiFunction;)I")] 10

def k12m0 : Method := { name := "<init>", desc := "()V", sig := { parameters := [], returnType := none }, accessFlags := 1, code := none }
def k12c1 : Code := { maxStack := 4, maxLocals := 4, code := jdk_41_method_12_code, exceptionTable := #[], attributes := #[] }
def k12m1 : Method := { name := "checkFromToIndex", desc := "(IIILjava/util/function/BiFunction;)I", sig := { parameters := [.int, .int, .int, (.object "java/util/function/BiFunction")], returnType := some .int }, accessFlags := 9, code := some k12c1 }
/-- jdk/internal/util/Preconditions -/
def k12 : Class := { plain "jdk/internal/util/Preconditions" (some 0) with
  accessFlags := 33
  interfaces := #[]
  cf := some (fileOf pool12 24 #[.nestMembers #[55, 131, 125, 114]] #[{ accessFlags := 1, nameIndex := 5, descriptorIndex := 6, attributes := #[] }, { accessFlags := 9, nameIndex := 47, descriptorIndex := 183, attributes := #[] }] 33 2 #[] #[{ accessFlags := 25, nameIndex := 123, descriptorIndex := 124, attributes := #[] }, { accessFlags := 25, nameIndex := 130, descriptorIndex := 124, attributes := #[] }, { accessFlags := 25, nameIndex := 136, descriptorIndex := 124, attributes := #[] }])
  fields := #[{ name := "SIOOBE_FORMATTER", type := (.object "java/util/function/BiFunction"), accessFlags := 25, slot := 0, constantValue := 0 }, { name := "AIOOBE_FORMATTER", type := (.object "java/util/function/BiFunction"), accessFlags := 25, slot := 1, constantValue := 0 }, { name := "IOOBE_FORMATTER", type := (.object "java/util/function/BiFunction"), accessFlags := 25, slot := 2, constantValue := 0 }]
  methods := #[k12m0, k12m1]
  instanceTypes := #[]
  staticTypes := #[(.object "java/util/function/BiFunction"), (.object "java/util/function/BiFunction"), (.object "java/util/function/BiFunction")]
  resolved := Array.replicate 194 none
  statics := some 1 }

def pool13 : Array CpInfo := pool [(2, .class_ 4), (1, u "java/lang/Object"), (0, u "<init>"), (0, u "()V"), (7, .class_ 16), (1, u "java/util/Arrays"), (57, .class_ 76), (1, u "java/util/Arrays$NaturalOrder"), (36, .class_ 115), (1, u "java/util/Arrays$LegacyMergeSort"), (1, u "Z"), (21, u "copyOfRange"), (10, .methodref 151 152), (0, .class_ 153), (0, .nameAndType 154 155), (0, u "java/lang/System"), (0, u "arraycopy"), (0, u "(Ljava/lang/Object;ILjava/lang/Object;II)V"), (148, .methodref 305 306), (0, .class_ 307), (0, .nameAndType 308 309), (0, u "java/lang/Math"), (0, u "min"), (0, u "(II)I"), (29, .methodref 14 340), (0, .nameAndType 341 342), (0, u "copyOfRangeByte"), (0, u "([BII)[B"), (0, .methodref 14 344), (0, .nameAndType 345 346), (0, u "checkLength"), (0, u "(II)V"), (28, .class_ 376), (0, u "java/util/Arrays$ArrayList"), (68, u "$assertionsDisabled"), (269, u "MIN_ARRAY_SORT_GRAN"), (0, u "I"), (2, u "INSERTIONSORT_THRESHOLD"), (255, .class_ 976), (0, u "java/util/Arrays$ArrayItr")] 52

def k13m0 : Method := { name := "<init>", desc := "()V", sig := { parameters := [], returnType := none }, accessFlags := 2, code := none }
def k13c1 : Code := { maxStack := 4, maxLocals := 2, code := jdk_65_method_131_code, exceptionTable := #[], attributes := #[] }
def k13m1 : Method := { name := "checkLength", desc := "(II)V", sig := { parameters := [.int, .int], returnType := none }, accessFlags := 10, code := some k13c1 }
def k13c2 : Code := { maxStack := 3, maxLocals := 3, code := jdk_65_method_132_code, exceptionTable := #[], attributes := #[] }
def k13m2 : Method := { name := "copyOfRange", desc := "([BII)[B", sig := { parameters := [(.array .byte), .int, .int], returnType := some (.array .byte) }, accessFlags := 9, code := some k13c2 }
def k13c3 : Code := { maxStack := 6, maxLocals := 5, code := jdk_65_method_133_code, exceptionTable := #[], attributes := #[] }
def k13m3 : Method := { name := "copyOfRangeByte", desc := "([BII)[B", sig := { parameters := [(.array .byte), .int, .int], returnType := some (.array .byte) }, accessFlags := 10, code := some k13c3 }
/-- java/util/Arrays -/
def k13 : Class := { plain "java/util/Arrays" (some 0) with
  accessFlags := 49
  interfaces := #[]
  cf := some (fileOf pool13 14 #[.nestMembers #[975, 375, 113, 74]] #[{ accessFlags := 2, nameIndex := 5, descriptorIndex := 6, attributes := #[] }, { accessFlags := 10, nameIndex := 345, descriptorIndex := 346, attributes := #[] }, { accessFlags := 9, nameIndex := 139, descriptorIndex := 342, attributes := #[] }, { accessFlags := 10, nameIndex := 341, descriptorIndex := 342, attributes := #[] }] 49 2 #[] #[{ accessFlags := 26, nameIndex := 715, descriptorIndex := 716, attributes := #[] }, { accessFlags := 26, nameIndex := 719, descriptorIndex := 716, attributes := #[] }, { accessFlags := 4120, nameIndex := 445, descriptorIndex := 117, attributes := #[] }])
  fields := #[{ name := "MIN_ARRAY_SORT_GRAN", type := .int, accessFlags := 26, slot := 0, constantValue := 0 }, { name := "INSERTIONSORT_THRESHOLD", type := .int, accessFlags := 26, slot := 1, constantValue := 0 }, { name := "$assertionsDisabled", type := .boolean, accessFlags := 4120, slot := 2, constantValue := 0 }]
  methods := #[k13m0, k13m1, k13m2, k13m3]
  instanceTypes := #[]
  staticTypes := #[.int, .int, .boolean]
  resolved := Array.replicate 1029 none
  statics := none }

def pool14 : Array CpInfo := pool [(2, .class_ 4), (1, u "java/lang/Object"), (0, u "<init>"), (0, u "()V"), (1, .class_ 10), (1, u "java/lang/System"), (0, u "allowSecurityManager"), (0, u "I"), (16, u "cons"), (0, u "Ljava/io/Console;"), (77, .class_ 110), (1, u "java/lang/System$CallersHolder"), (43, u "initialErrStream"), (0, u "Ljava/io/PrintStream;"), (19, u "security"), (0, u "Ljava/lang/SecurityManager;"), (31, .class_ 209), (0, u "java/lang/System$1"), (7, u "props"), (0, u "Ljava/util/Properties;"), (2, u "lineSeparator"), (0, u "Ljava/lang/String;"), (96, .class_ 321), (1, u "java/lang/System$LoggerFinder"), (5, .class_ 328), (0, u "java/lang/System$Logger"), (67, u "err"), (2, u "out"), (91, u "notSupportedJnuEncoding"), (15, u "in"), (17, u "initialIn"), (0, u "Ljava/io/InputStream;"), (35, u "bootLayer"), (0, u "Ljava/lang/ModuleLayer;"), (99, .class_ 664), (0, u "java/lang/System$2"), (9, u "NEVER"), (2, u "MAYBE"), (49, u "arraycopy"), (0, u "(Ljava/lang/Object;ILjava/lang/Object;II)V"), (72, .class_ 802), (0, u "java/lang/System$Logger$Level")] 31

def k14m0 : Method := { name := "<init>", desc := "()V", sig := { parameters := [], returnType := none }, accessFlags := 2, code := none }
def k14m1 : Method := { name := "arraycopy", desc := "(Ljava/lang/Object;ILjava/lang/Object;II)V", sig := { parameters := [(.object "java/lang/Object"), .int, (.object "java/lang/Object"), .int, .int], returnType := none }, accessFlags := 265, code := none }
/-- java/lang/System -/
def k14 : Class := { plain "java/lang/System" (some 0) with
  accessFlags := 49
  interfaces := #[]
  cf := some (fileOf pool14 8 #[.nestMembers #[319, 327, 801, 108, 663, 208]] #[{ accessFlags := 2, nameIndex := 5, descriptorIndex := 6, attributes := #[] }, { accessFlags := 265, nameIndex := 727, descriptorIndex := 728, attributes := #[] }] 49 2 #[] #[{ accessFlags := 25, nameIndex := 507, descriptorIndex := 526, attributes := #[] }, { accessFlags := 25, nameIndex := 399, descriptorIndex := 155, attributes := #[] }, { accessFlags := 25, nameIndex := 396, descriptorIndex := 155, attributes := #[] }, { accessFlags := 10, nameIndex := 525, descriptorIndex := 526, attributes := #[] }, { accessFlags := 26, nameIndex := 674, descriptorIndex := 12, attributes := #[] }, { accessFlags := 26, nameIndex := 677, descriptorIndex := 12, attributes := #[] }, { accessFlags := 10, nameIndex := 11, descriptorIndex := 12, attributes := #[] }, { accessFlags := 74, nameIndex := 175, descriptorIndex := 176, attributes := #[] }, { accessFlags := 10, nameIndex := 491, descriptorIndex := 222, attributes := #[] }, { accessFlags := 74, nameIndex := 29, descriptorIndex := 30, attributes := #[] }, { accessFlags := 74, nameIndex := 154, descriptorIndex := 155, attributes := #[] }, { accessFlags := 10, nameIndex := 217, descriptorIndex := 218, attributes := #[] }, { accessFlags := 10, nameIndex := 221, descriptorIndex := 222, attributes := #[] }, { accessFlags := 8, nameIndex := 562, descriptorIndex := 563, attributes := #[] }])
  fields := #[{ name := "in", type := (.object "java/io/InputStream"), accessFlags := 25, slot := 0, constantValue := 0 }, { name := "out", type := (.object "java/io/PrintStream"), accessFlags := 25, slot := 1, constantValue := 0 }, { name := "err", type := (.object "java/io/PrintStream"), accessFlags := 25, slot := 2, constantValue := 0 }, { name := "initialIn", type := (.object "java/io/InputStream"), accessFlags := 10, slot := 3, constantValue := 0 }, { name := "NEVER", type := .int, accessFlags := 26, slot := 4, constantValue := 0 }, { name := "MAYBE", type := .int, accessFlags := 26, slot := 5, constantValue := 0 }, { name := "allowSecurityManager", type := .int, accessFlags := 10, slot := 6, constantValue := 0 }, { name := "security", type := (.object "java/lang/SecurityManager"), accessFlags := 74, slot := 7, constantValue := 0 }, { name := "notSupportedJnuEncoding", type := (.object "java/lang/String"), accessFlags := 10, slot := 8, constantValue := 0 }, { name := "cons", type := (.object "java/io/Console"), accessFlags := 74, slot := 9, constantValue := 0 }, { name := "initialErrStream", type := (.object "java/io/PrintStream"), accessFlags := 74, slot := 10, constantValue := 0 }, { name := "props", type := (.object "java/util/Properties"), accessFlags := 10, slot := 11, constantValue := 0 }, { name := "lineSeparator", type := (.object "java/lang/String"), accessFlags := 10, slot := 12, constantValue := 0 }, { name := "bootLayer", type := (.object "java/lang/ModuleLayer"), accessFlags := 8, slot := 13, constantValue := 0 }]
  methods := #[k14m0, k14m1]
  instanceTypes := #[]
  staticTypes := #[(.object "java/io/InputStream"), (.object "java/io/PrintStream"), (.object "java/io/PrintStream"), (.object "java/io/InputStream"), .int, .int, .int, (.object "java/lang/SecurityManager"), (.object "java/lang/String"), (.object "java/io/Console"), (.object "java/io/PrintStream"), (.object "java/util/Properties"), (.object "java/lang/String"), (.object "java/lang/ModuleLayer")]
  resolved := Array.replicate 834 none
  statics := none }

def pool15 : Array CpInfo := pool [(9, u "<init>"), (6, .class_ 18), (1, u "java/lang/Object"), (0, u "()V"), (1, .class_ 23), (1, u "jdk/internal/util/ArraysSupport"), (0, u "LOG2_ARRAY_LONG_INDEX_SCALE"), (0, u "I"), (2, u "U"), (0, u "Ljdk/internal/misc/Unsafe;"), (8, u "BIG_ENDIAN"), (0, u "Z"), (8, u "LOG2_BYTE_BIT_SIZE"), (4, u "LOG2_ARRAY_INT_INDEX_SCALE"), (54, u "JLA"), (0, u "Ljdk/internal/access/JavaLangAccess;"), (11, u "LOG2_ARRAY_BOOLEAN_INDEX_SCALE"), (9, u "LOG2_ARRAY_BYTE_INDEX_SCALE"), (5, u "LOG2_ARRAY_CHAR_INDEX_SCALE"), (5, u "LOG2_ARRAY_SHORT_INDEX_SCALE"), (18, u "LOG2_ARRAY_FLOAT_INDEX_SCALE"), (24, u "LOG2_ARRAY_DOUBLE_INDEX_SCALE"), (89, u "T_BOOLEAN"), (2, u "T_CHAR"), (1, u "T_FLOAT"), (1, u "T_DOUBLE"), (1, u "T_BYTE"), (1, u "T_SHORT"), (1, u "T_INT"), (1, u "T_LONG"), (1, u "SOFT_MAX_ARRAY_LENGTH")] 83

def k15m0 : Method := { name := "<init>", desc := "()V", sig := { parameters := [], returnType := none }, accessFlags := 2, code := none }
/-- jdk/internal/util/ArraysSupport -/
def k15 : Class := { plain "jdk/internal/util/ArraysSupport" (some 0) with
  accessFlags := 33
  interfaces := #[]
  cf := some (fileOf pool15 21 #[] #[{ accessFlags := 2, nameIndex := 9, descriptorIndex := 19, attributes := #[] }] 33 16 #[] #[{ accessFlags := 24, nameIndex := 28, descriptorIndex := 29, attributes := #[] }, { accessFlags := 26, nameIndex := 38, descriptorIndex := 39, attributes := #[] }, { accessFlags := 25, nameIndex := 121, descriptorIndex := 25, attributes := #[] }, { accessFlags := 25, nameIndex := 131, descriptorIndex := 25, attributes := #[] }, { accessFlags := 25, nameIndex := 137, descriptorIndex := 25, attributes := #[] }, { accessFlags := 25, nameIndex := 143, descriptorIndex := 25, attributes := #[] }, { accessFlags := 25, nameIndex := 53, descriptorIndex := 25, attributes := #[] }, { accessFlags := 25, nameIndex := 24, descriptorIndex := 25, attributes := #[] }, { accessFlags := 25, nameIndex := 162, descriptorIndex := 25, attributes := #[] }, { accessFlags := 25, nameIndex := 187, descriptorIndex := 25, attributes := #[] }, { accessFlags := 26, nameIndex := 48, descriptorIndex := 25, attributes := #[] }, { accessFlags := 25, nameIndex := 277, descriptorIndex := 25, attributes := #[] }, { accessFlags := 25, nameIndex := 280, descriptorIndex := 25, attributes := #[] }, { accessFlags := 25, nameIndex := 282, descriptorIndex := 25, attributes := #[] }, { accessFlags := 25, nameIndex := 284, descriptorIndex := 25, attributes := #[] }, { accessFlags := 25, nameIndex := 286, descriptorIndex := 25, attributes := #[] }, { accessFlags := 25, nameIndex := 288, descriptorIndex := 25, attributes := #[] }, { accessFlags := 25, nameIndex := 290, descriptorIndex := 25, attributes := #[] }, { accessFlags := 25, nameIndex := 292, descriptorIndex := 25, attributes := #[] }, { accessFlags := 26, nameIndex := 108, descriptorIndex := 109, attributes := #[] }, { accessFlags := 25, nameIndex := 294, descriptorIndex := 25, attributes := #[] }])
  fields := #[{ name := "U", type := (.object "jdk/internal/misc/Unsafe"), accessFlags := 24, slot := 0, constantValue := 0 }, { name := "BIG_ENDIAN", type := .boolean, accessFlags := 26, slot := 1, constantValue := 0 }, { name := "LOG2_ARRAY_BOOLEAN_INDEX_SCALE", type := .int, accessFlags := 25, slot := 2, constantValue := 0 }, { name := "LOG2_ARRAY_BYTE_INDEX_SCALE", type := .int, accessFlags := 25, slot := 3, constantValue := 0 }, { name := "LOG2_ARRAY_CHAR_INDEX_SCALE", type := .int, accessFlags := 25, slot := 4, constantValue := 0 }, { name := "LOG2_ARRAY_SHORT_INDEX_SCALE", type := .int, accessFlags := 25, slot := 5, constantValue := 0 }, { name := "LOG2_ARRAY_INT_INDEX_SCALE", type := .int, accessFlags := 25, slot := 6, constantValue := 0 }, { name := "LOG2_ARRAY_LONG_INDEX_SCALE", type := .int, accessFlags := 25, slot := 7, constantValue := 0 }, { name := "LOG2_ARRAY_FLOAT_INDEX_SCALE", type := .int, accessFlags := 25, slot := 8, constantValue := 0 }, { name := "LOG2_ARRAY_DOUBLE_INDEX_SCALE", type := .int, accessFlags := 25, slot := 9, constantValue := 0 }, { name := "LOG2_BYTE_BIT_SIZE", type := .int, accessFlags := 26, slot := 10, constantValue := 0 }, { name := "T_BOOLEAN", type := .int, accessFlags := 25, slot := 11, constantValue := 0 }, { name := "T_CHAR", type := .int, accessFlags := 25, slot := 12, constantValue := 0 }, { name := "T_FLOAT", type := .int, accessFlags := 25, slot := 13, constantValue := 0 }, { name := "T_DOUBLE", type := .int, accessFlags := 25, slot := 14, constantValue := 0 }, { name := "T_BYTE", type := .int, accessFlags := 25, slot := 15, constantValue := 0 }, { name := "T_SHORT", type := .int, accessFlags := 25, slot := 16, constantValue := 0 }, { name := "T_INT", type := .int, accessFlags := 25, slot := 17, constantValue := 0 }, { name := "T_LONG", type := .int, accessFlags := 25, slot := 18, constantValue := 0 }, { name := "JLA", type := (.object "jdk/internal/access/JavaLangAccess"), accessFlags := 26, slot := 19, constantValue := 0 }, { name := "SOFT_MAX_ARRAY_LENGTH", type := .int, accessFlags := 25, slot := 20, constantValue := 0 }]
  methods := #[k15m0]
  instanceTypes := #[]
  staticTypes := #[(.object "jdk/internal/misc/Unsafe"), .boolean, .int, .int, .int, .int, .int, .int, .int, .int, .int, .int, .int, .int, .int, .int, .int, .int, .int, (.object "jdk/internal/access/JavaLangAccess"), .int]
  resolved := Array.replicate 378 none
  statics := none }

def pool16 : Array CpInfo := pool [(1, u "java/lang/Cloneable"), (0, .class_ 1), (0, u "java/lang/Object"), (0, .class_ 3)] 3

/-- java/lang/Cloneable -/
def k16 : Class := { plain "java/lang/Cloneable" (some 0) with
  accessFlags := 1537
  interfaces := #[]
  cf := some (fileOf pool16 2 #[] #[] 1537 4 #[] #[])
  fields := #[]
  methods := #[]
  instanceTypes := #[]
  staticTypes := #[]
  resolved := Array.replicate 8 none
  statics := none }

/-- the primitive byte -/
def k17 : Class := { plain "byte" none with kind := .primitive 'B', accessFlags := 0x411 }
/-- [B -/
def k18 : Class := { plain "[B" (some 0) with kind := .array 17 .byte, interfaces := #[16, 2], accessFlags := 1041 }

/-- the primitive char -/
def k19 : Class := { plain "char" none with kind := .primitive 'C', accessFlags := 0x411 }
/-- [C -/
def k20 : Class := { plain "[C" (some 0) with kind := .array 19 .char, interfaces := #[16, 2], accessFlags := 1041 }

/-- the primitive int -/
def k21 : Class := { plain "int" none with kind := .primitive 'I', accessFlags := 0x411 }
/-- [I -/
def k22 : Class := { plain "[I" (some 0) with kind := .array 21 .int, interfaces := #[16, 2], accessFlags := 1041 }

def heap : Heap := #[{ cls := 7, slots := #[.long 0, .int 1, .null, .int 0, .null, .int 0, .int 0], vm := .statics 7 },
  { cls := 12, slots := #[.null, .null, .null], vm := .statics 12 }]
def classes : Array Class := #[k0, k1, k2, k3, k4, k5, k6, k7, k8, k9, k10, k11, k12, k13, k14, k15, k16, k17, k18, k19, k20, k21, k22]
def interned : List (Array UInt16 × Addr) := []
def slotsUsed : Nat := 10
def theMethod : MethodId := ⟨1, 3⟩
def args0 : Array Value := #[.int 5, .long 6]
def aboutOver (below : List Frame) : State where
  vm := { classes := classes, interned := interned.toArray }
  heap := heap
  slotsUsed := slotsUsed
  threads := #[{ frames := .invoking theMethod args0 :: below }]
def below0 : List Frame := [.native { method := ⟨0, 0⟩, args := #[] }]
def about1 : State := aboutOver below0
def p0 : Program := .bare "" "" ""
def e0 : Env := launch0.env 0 0 0
theorem w_frames : about1.frames = Frame.invoking theMethod args0 :: below0 := rfl
set_option maxRecDepth 65536 in
theorem w_args : argsFit about1.vm theMethod args0 = true := by decide +kernel
set_option maxRecDepth 65536 in
theorem w_heap : heapFits about1 = true := by decide +kernel
set_option maxRecDepth 65536 in
theorem w_runnable : about1.curStatus? = some .runnable := by decide +kernel
set_option maxRecDepth 65536 in
theorem w_alone : about1.alone = true := by decide +kernel
set_option maxRecDepth 65536 in
theorem w_named : about1.methodNamed? x = some theMethod := by decide +kernel
set_option maxRecDepth 65536 in
theorem w_hears : about1.hears theMethod below0 = true := by decide +kernel
set_option maxRecDepth 65536 in
theorem w_ripe : about1.ripe theMethod args0 below0 = true := by decide +kernel
theorem w_running : about1.status = .running := rfl
set_option maxRecDepth 65536 in
theorem w_room : about1.hasRoom e0.platform room_1 = true :=
  launch0.hasRoom_least _ room_1 (by decide +kernel) (by decide +kernel) (by decide +kernel) (by decide +kernel) (by decide +kernel) (by decide +kernel)
theorem allAtoms_all (ts : List Jvm.Cond) (a : Array Jvm.Value) (st : Jvm.State) : (allAtoms ts).before a st = ts.all (fun c => c.before a st) := by
  induction ts with
  | nil => rfl
  | cons c t ih =>
    show (Jvm.Cond.and c (allAtoms t)).before a st = _
    rw [Jvm.Cond.before_and, ih, List.all_cons]
def words1 : List Jvm.Cond := Jvm.Cond.code x code maxLocals ret :: tables_1
/-- a 'code' word, met by the world's own term for the bytes: nothing is compared byte by byte -/
theorem code_word {y : MethodName} {bytes : ByteArray} {mx : Nat} {rt : Option FieldType} {a : Array Value} {s : State} {m : MethodId} {meth : Method} {c : Code} (h1 : s.methodNamed? y = some m) (h2 : s.vm.method? m = some meth) (h3 : meth.code = some c) (h4 : c.code = bytes)
    (h5 : (c.maxLocals == mx && c.exceptionTable.isEmpty && decide (c.maxStack ≤ mostOperands) && decide (meth.sig.returnType = rt) && !meth.locks && decide (parseMethodDescriptor y.desc = some meth.sig)) = true) : (Jvm.Cond.code y bytes mx rt).before a s = true := by
  simp only [Bool.and_eq_true, beq_iff_eq, Bool.not_eq_true', decide_eq_true_eq] at h5
  obtain ⟨⟨⟨⟨⟨g1, g2⟩, g3⟩, g4⟩, g5⟩, g6⟩ := h5
  simp [Cond.before, Cond.holds, Cond.value, h1, h2, h3, h4, g1, g2, g3, g4, g5, g6]
def isCode : Jvm.Cond → Bool
  | .code _ _ _ _ => true
  | _ => false
theorem all_split {L : List Jvm.Cond} {P : Jvm.Cond → Bool} (h1 : L.all (fun c => isCode c || P c) = true) (h2 : ∀ c ∈ L.filter isCode, P c = true) : L.all P = true := by
  refine List.all_eq_true.mpr fun c hc => ?_
  have h := List.all_eq_true.mp h1 c hc
  rcases Bool.eq_false_or_eq_true (isCode c) with hi | hi
  · exact h2 c (List.mem_filter.mpr ⟨hc, hi⟩)
  · simpa [hi] using h
set_option maxRecDepth 65536 in
theorem w_c0 : (Jvm.Cond.code x code maxLocals ret).before args0 about1 = true := code_word (m := ⟨1, 3⟩) (meth := k1m3) (c := k1c3) (by decide +kernel) rfl rfl rfl (by decide +kernel)
set_option maxRecDepth 65536 in
theorem w_c1 : (Jvm.Cond.code ({ cls := "com/example/bylaw/bylaw/TreePath", name := "parent", desc := "(Ljava/lang/String;)Ljava/lang/String;" } : Jvm.MethodName) prog_19_method_5_code (2 : Nat) (Option.some (Jvm.ClassFile.FieldType.object "java/lang/String"))).before args0 about1 = true := code_word (m := ⟨8, 1⟩) (meth := k8m1) (c := k8c1) (by decide +kernel) rfl rfl rfl (by decide +kernel)
set_option maxRecDepth 65536 in
theorem w_c2 : (Jvm.Cond.code ({ cls := "java/lang/String", name := "equals", desc := "(Ljava/lang/Object;)Z" } : Jvm.MethodName) jdk_42_method_66_code (3 : Nat) (Option.some Jvm.ClassFile.FieldType.boolean)).before args0 about1 = true := code_word (m := ⟨7, 3⟩) (meth := k7m3) (c := k7c3) (by decide +kernel) rfl rfl rfl (by decide +kernel)
set_option maxRecDepth 65536 in
theorem w_c3 : (Jvm.Cond.code ({ cls := "com/example/bylaw/bylaw/TreePathParentPinLaw", name := "ch", desc := "(JI)C" } : Jvm.MethodName) method_2_code (4 : Nat) (Option.some Jvm.ClassFile.FieldType.char)).before args0 about1 = true := code_word (m := ⟨1, 1⟩) (meth := k1m1) (c := k1c1) (by decide +kernel) rfl rfl rfl (by decide +kernel)
set_option maxRecDepth 65536 in
theorem w_c4 : (Jvm.Cond.code ({ cls := "com/example/bylaw/bylaw/TreePathParentPinLaw", name := "str", desc := "([CI)Ljava/lang/String;" } : Jvm.MethodName) method_3_code (3 : Nat) (Option.some (Jvm.ClassFile.FieldType.object "java/lang/String"))).before args0 about1 = true := code_word (m := ⟨1, 2⟩) (meth := k1m2) (c := k1c2) (by decide +kernel) rfl rfl rfl (by decide +kernel)
set_option maxRecDepth 65536 in
theorem w_c5 : (Jvm.Cond.code ({ cls := "java/lang/String", name := "<init>", desc := "([C)V" } : Jvm.MethodName) jdk_42_method_3_code (2 : Nat) (Option.none : Option Jvm.ClassFile.FieldType)).before args0 about1 = true := code_word (m := ⟨7, 1⟩) (meth := k7m1) (c := k7c1) (by decide +kernel) rfl rfl rfl (by decide +kernel)
set_option maxRecDepth 65536 in
theorem w_c6 : (Jvm.Cond.code ({ cls := "java/lang/String", name := "<init>", desc := "([CIILjava/lang/Void;)V" } : Jvm.MethodName) jdk_42_method_149_code (6 : Nat) (Option.none : Option Jvm.ClassFile.FieldType)).before args0 about1 = true := code_word (m := ⟨7, 7⟩) (meth := k7m7) (c := k7c7) (by decide +kernel) rfl rfl rfl (by decide +kernel)
set_option maxRecDepth 65536 in
theorem w_c7 : (Jvm.Cond.code ({ cls := "java/lang/Object", name := "<init>", desc := "()V" } : Jvm.MethodName) object_method_1_code (1 : Nat) (Option.none : Option Jvm.ClassFile.FieldType)).before args0 about1 = true := code_word (m := ⟨0, 0⟩) (meth := k0m0) (c := k0c0) (by decide +kernel) rfl rfl rfl (by decide +kernel)
set_option maxRecDepth 65536 in
theorem w_c8 : (Jvm.Cond.code ({ cls := "java/lang/StringUTF16", name := "compress", desc := "([CII)[B" } : Jvm.MethodName) jdk_52_method_16_code (6 : Nat) (Option.some (Jvm.ClassFile.FieldType.array Jvm.ClassFile.FieldType.byte))).before args0 about1 = true := code_word (m := ⟨9, 2⟩) (meth := k9m2) (c := k9c2) (by decide +kernel) rfl rfl rfl (by decide +kernel)
set_option maxRecDepth 65536 in
theorem w_c9 : (Jvm.Cond.code ({ cls := "java/lang/StringUTF16", name := "compress", desc := "([CI[BII)I" } : Jvm.MethodName) jdk_52_method_21_code (7 : Nat) (Option.some Jvm.ClassFile.FieldType.int)).before args0 about1 = true := code_word (m := ⟨9, 3⟩) (meth := k9m3) (c := k9c3) (by decide +kernel) rfl rfl rfl (by decide +kernel)
set_option maxRecDepth 65536 in
theorem w_c10 : (Jvm.Cond.code ({ cls := "java/lang/StringUTF16", name := "coderFromArrayLen", desc := "([BI)B" } : Jvm.MethodName) jdk_52_method_15_code (2 : Nat) (Option.some Jvm.ClassFile.FieldType.byte)).before args0 about1 = true := code_word (m := ⟨9, 1⟩) (meth := k9m1) (c := k9c1) (by decide +kernel) rfl rfl rfl (by decide +kernel)
set_option maxRecDepth 65536 in
theorem w_c11 : (Jvm.Cond.code ({ cls := "java/lang/StringLatin1", name := "equals", desc := "([B[B)Z" } : Jvm.MethodName) jdk_43_method_13_code (3 : Nat) (Option.some Jvm.ClassFile.FieldType.boolean)).before args0 about1 = true := code_word (m := ⟨10, 2⟩) (meth := k10m2) (c := k10c2) (by decide +kernel) rfl rfl rfl (by decide +kernel)
set_option maxRecDepth 65536 in
theorem w_c12 : (Jvm.Cond.code ({ cls := "java/lang/String", name := "lastIndexOf", desc := "(I)I" } : Jvm.MethodName) jdk_42_method_82_code (2 : Nat) (Option.some Jvm.ClassFile.FieldType.int)).before args0 about1 = true := code_word (m := ⟨7, 4⟩) (meth := k7m4) (c := k7c4) (by decide +kernel) rfl rfl rfl (by decide +kernel)
set_option maxRecDepth 65536 in
theorem w_c13 : (Jvm.Cond.code ({ cls := "java/lang/String", name := "length", desc := "()I" } : Jvm.MethodName) jdk_42_method_54_code (1 : Nat) (Option.some Jvm.ClassFile.FieldType.int)).before args0 about1 = true := code_word (m := ⟨7, 2⟩) (meth := k7m2) (c := k7c2) (by decide +kernel) rfl rfl rfl (by decide +kernel)
set_option maxRecDepth 65536 in
theorem w_c14 : (Jvm.Cond.code ({ cls := "java/lang/String", name := "coder", desc := "()B" } : Jvm.MethodName) jdk_42_method_152_code (1 : Nat) (Option.some Jvm.ClassFile.FieldType.byte)).before args0 about1 = true := code_word (m := ⟨7, 9⟩) (meth := k7m9) (c := k7c9) (by decide +kernel) rfl rfl rfl (by decide +kernel)
set_option maxRecDepth 65536 in
theorem w_c15 : (Jvm.Cond.code ({ cls := "java/lang/String", name := "lastIndexOf", desc := "(II)I" } : Jvm.MethodName) jdk_42_method_83_code (3 : Nat) (Option.some Jvm.ClassFile.FieldType.int)).before args0 about1 = true := code_word (m := ⟨7, 5⟩) (meth := k7m5) (c := k7c5) (by decide +kernel) rfl rfl rfl (by decide +kernel)
set_option maxRecDepth 65536 in
theorem w_c16 : (Jvm.Cond.code ({ cls := "java/lang/String", name := "isLatin1", desc := "()Z" } : Jvm.MethodName) jdk_42_method_154_code (1 : Nat) (Option.some Jvm.ClassFile.FieldType.boolean)).before args0 about1 = true := code_word (m := ⟨7, 10⟩) (meth := k7m10) (c := k7c10) (by decide +kernel) rfl rfl rfl (by decide +kernel)
set_option maxRecDepth 65536 in
theorem w_c17 : (Jvm.Cond.code ({ cls := "java/lang/StringLatin1", name := "lastIndexOf", desc := "([BII)I" } : Jvm.MethodName) jdk_43_method_27_code (4 : Nat) (Option.some Jvm.ClassFile.FieldType.int)).before args0 about1 = true := code_word (m := ⟨10, 3⟩) (meth := k10m3) (c := k10c3) (by decide +kernel) rfl rfl rfl (by decide +kernel)
set_option maxRecDepth 65536 in
theorem w_c18 : (Jvm.Cond.code ({ cls := "java/lang/StringLatin1", name := "canEncode", desc := "(I)Z" } : Jvm.MethodName) jdk_43_method_4_code (1 : Nat) (Option.some Jvm.ClassFile.FieldType.boolean)).before args0 about1 = true := code_word (m := ⟨10, 1⟩) (meth := k10m1) (c := k10c1) (by decide +kernel) rfl rfl rfl (by decide +kernel)
set_option maxRecDepth 65536 in
theorem w_c19 : (Jvm.Cond.code ({ cls := "java/lang/Math", name := "min", desc := "(II)I" } : Jvm.MethodName) jdk_29_method_69_code (2 : Nat) (Option.some Jvm.ClassFile.FieldType.int)).before args0 about1 = true := code_word (m := ⟨11, 1⟩) (meth := k11m1) (c := k11c1) (by decide +kernel) rfl rfl rfl (by decide +kernel)
set_option maxRecDepth 65536 in
theorem w_c20 : (Jvm.Cond.code ({ cls := "java/lang/String", name := "substring", desc := "(II)Ljava/lang/String;" } : Jvm.MethodName) jdk_42_method_92_code (5 : Nat) (Option.some (Jvm.ClassFile.FieldType.object "java/lang/String"))).before args0 about1 = true := code_word (m := ⟨7, 6⟩) (meth := k7m6) (c := k7c6) (by decide +kernel) rfl rfl rfl (by decide +kernel)
set_option maxRecDepth 65536 in
theorem w_c21 : (Jvm.Cond.code ({ cls := "java/lang/String", name := "checkBoundsBeginEnd", desc := "(III)V" } : Jvm.MethodName) jdk_42_method_158_code (3 : Nat) (Option.none : Option Jvm.ClassFile.FieldType)).before args0 about1 = true := code_word (m := ⟨7, 11⟩) (meth := k7m11) (c := k7c11) (by decide +kernel) rfl rfl rfl (by decide +kernel)
set_option maxRecDepth 65536 in
theorem w_c22 : (Jvm.Cond.code ({ cls := "jdk/internal/util/Preconditions", name := "checkFromToIndex", desc := "(IIILjava/util/function/BiFunction;)I" } : Jvm.MethodName) jdk_41_method_12_code (4 : Nat) (Option.some Jvm.ClassFile.FieldType.int)).before args0 about1 = true := code_word (m := ⟨12, 1⟩) (meth := k12m1) (c := k12c1) (by decide +kernel) rfl rfl rfl (by decide +kernel)
set_option maxRecDepth 65536 in
theorem w_c23 : (Jvm.Cond.code ({ cls := "java/lang/StringLatin1", name := "newString", desc := "([BII)Ljava/lang/String;" } : Jvm.MethodName) jdk_43_method_47_code (3 : Nat) (Option.some (Jvm.ClassFile.FieldType.object "java/lang/String"))).before args0 about1 = true := code_word (m := ⟨10, 4⟩) (meth := k10m4) (c := k10c4) (by decide +kernel) rfl rfl rfl (by decide +kernel)
set_option maxRecDepth 65536 in
theorem w_c24 : (Jvm.Cond.code ({ cls := "java/util/Arrays", name := "copyOfRange", desc := "([BII)[B" } : Jvm.MethodName) jdk_65_method_132_code (3 : Nat) (Option.some (Jvm.ClassFile.FieldType.array Jvm.ClassFile.FieldType.byte))).before args0 about1 = true := code_word (m := ⟨13, 2⟩) (meth := k13m2) (c := k13c2) (by decide +kernel) rfl rfl rfl (by decide +kernel)
set_option maxRecDepth 65536 in
theorem w_c25 : (Jvm.Cond.code ({ cls := "java/util/Arrays", name := "copyOfRangeByte", desc := "([BII)[B" } : Jvm.MethodName) jdk_65_method_133_code (5 : Nat) (Option.some (Jvm.ClassFile.FieldType.array Jvm.ClassFile.FieldType.byte))).before args0 about1 = true := code_word (m := ⟨13, 3⟩) (meth := k13m3) (c := k13c3) (by decide +kernel) rfl rfl rfl (by decide +kernel)
set_option maxRecDepth 65536 in
theorem w_c26 : (Jvm.Cond.code ({ cls := "java/util/Arrays", name := "checkLength", desc := "(II)V" } : Jvm.MethodName) jdk_65_method_131_code (2 : Nat) (Option.none : Option Jvm.ClassFile.FieldType)).before args0 about1 = true := code_word (m := ⟨13, 1⟩) (meth := k13m1) (c := k13c1) (by decide +kernel) rfl rfl rfl (by decide +kernel)
set_option maxRecDepth 65536 in
theorem w_c27 : (Jvm.Cond.code ({ cls := "java/lang/String", name := "<init>", desc := "([BB)V" } : Jvm.MethodName) jdk_42_method_151_code (3 : Nat) (Option.none : Option Jvm.ClassFile.FieldType)).before args0 about1 = true := code_word (m := ⟨7, 8⟩) (meth := k7m8) (c := k7c8) (by decide +kernel) rfl rfl rfl (by decide +kernel)
def codes1 : List Jvm.Cond := [Jvm.Cond.code x code maxLocals ret, Jvm.Cond.code ({ cls := "com/example/bylaw/bylaw/TreePath", name := "parent", desc := "(Ljava/lang/String;)Ljava/lang/String;" } : Jvm.MethodName) prog_19_method_5_code (2 : Nat) (Option.some (Jvm.ClassFile.FieldType.object "java/lang/String")), Jvm.Cond.code ({ cls := "java/lang/String", name := "equals", desc := "(Ljava/lang/Object;)Z" } : Jvm.MethodName) jdk_42_method_66_code (3 : Nat) (Option.some Jvm.ClassFile.FieldType.boolean), Jvm.Cond.code ({ cls := "com/example/bylaw/bylaw/TreePathParentPinLaw", name := "ch", desc := "(JI)C" } : Jvm.MethodName) method_2_code (4 : Nat) (Option.some Jvm.ClassFile.FieldType.char), Jvm.Cond.code ({ cls := "com/example/bylaw/bylaw/TreePathParentPinLaw", name := "str", desc := "([CI)Ljava/lang/String;" } : Jvm.MethodName) method_3_code (3 : Nat) (Option.some (Jvm.ClassFile.FieldType.object "java/lang/String")), Jvm.Cond.code ({ cls := "java/lang/String", name := "<init>", desc := "([C)V" } : Jvm.MethodName) jdk_42_method_3_code (2 : Nat) (Option.none : Option Jvm.ClassFile.FieldType), Jvm.Cond.code ({ cls := "java/lang/String", name := "<init>", desc := "([CIILjava/lang/Void;)V" } : Jvm.MethodName) jdk_42_method_149_code (6 : Nat) (Option.none : Option Jvm.ClassFile.FieldType), Jvm.Cond.code ({ cls := "java/lang/Object", name := "<init>", desc := "()V" } : Jvm.MethodName) object_method_1_code (1 : Nat) (Option.none : Option Jvm.ClassFile.FieldType), Jvm.Cond.code ({ cls := "java/lang/StringUTF16", name := "compress", desc := "([CII)[B" } : Jvm.MethodName) jdk_52_method_16_code (6 : Nat) (Option.some (Jvm.ClassFile.FieldType.array Jvm.ClassFile.FieldType.byte)), Jvm.Cond.code ({ cls := "java/lang/StringUTF16", name := "compress", desc := "([CI[BII)I" } : Jvm.MethodName) jdk_52_method_21_code (7 : Nat) (Option.some Jvm.ClassFile.FieldType.int), Jvm.Cond.code ({ cls := "java/lang/StringUTF16", name := "coderFromArrayLen", desc := "([BI)B" } : Jvm.MethodName) jdk_52_method_15_code (2 : Nat) (Option.some Jvm.ClassFile.FieldType.byte), Jvm.Cond.code ({ cls := "java/lang/StringLatin1", name := "equals", desc := "([B[B)Z" } : Jvm.MethodName) jdk_43_method_13_code (3 : Nat) (Option.some Jvm.ClassFile.FieldType.boolean), Jvm.Cond.code ({ cls := "java/lang/String", name := "lastIndexOf", desc := "(I)I" } : Jvm.MethodName) jdk_42_method_82_code (2 : Nat) (Option.some Jvm.ClassFile.FieldType.int), Jvm.Cond.code ({ cls := "java/lang/String", name := "length", desc := "()I" } : Jvm.MethodName) jdk_42_method_54_code (1 : Nat) (Option.some Jvm.ClassFile.FieldType.int), Jvm.Cond.code ({ cls := "java/lang/String", name := "coder", desc := "()B" } : Jvm.MethodName) jdk_42_method_152_code (1 : Nat) (Option.some Jvm.ClassFile.FieldType.byte), Jvm.Cond.code ({ cls := "java/lang/String", name := "lastIndexOf", desc := "(II)I" } : Jvm.MethodName) jdk_42_method_83_code (3 : Nat) (Option.some Jvm.ClassFile.FieldType.int), Jvm.Cond.code ({ cls := "java/lang/String", name := "isLatin1", desc := "()Z" } : Jvm.MethodName) jdk_42_method_154_code (1 : Nat) (Option.some Jvm.ClassFile.FieldType.boolean), Jvm.Cond.code ({ cls := "java/lang/StringLatin1", name := "lastIndexOf", desc := "([BII)I" } : Jvm.MethodName) jdk_43_method_27_code (4 : Nat) (Option.some Jvm.ClassFile.FieldType.int), Jvm.Cond.code ({ cls := "java/lang/StringLatin1", name := "canEncode", desc := "(I)Z" } : Jvm.MethodName) jdk_43_method_4_code (1 : Nat) (Option.some Jvm.ClassFile.FieldType.boolean), Jvm.Cond.code ({ cls := "java/lang/Math", name := "min", desc := "(II)I" } : Jvm.MethodName) jdk_29_method_69_code (2 : Nat) (Option.some Jvm.ClassFile.FieldType.int), Jvm.Cond.code ({ cls := "java/lang/String", name := "substring", desc := "(II)Ljava/lang/String;" } : Jvm.MethodName) jdk_42_method_92_code (5 : Nat) (Option.some (Jvm.ClassFile.FieldType.object "java/lang/String")), Jvm.Cond.code ({ cls := "java/lang/String", name := "checkBoundsBeginEnd", desc := "(III)V" } : Jvm.MethodName) jdk_42_method_158_code (3 : Nat) (Option.none : Option Jvm.ClassFile.FieldType), Jvm.Cond.code ({ cls := "jdk/internal/util/Preconditions", name := "checkFromToIndex", desc := "(IIILjava/util/function/BiFunction;)I" } : Jvm.MethodName) jdk_41_method_12_code (4 : Nat) (Option.some Jvm.ClassFile.FieldType.int), Jvm.Cond.code ({ cls := "java/lang/StringLatin1", name := "newString", desc := "([BII)Ljava/lang/String;" } : Jvm.MethodName) jdk_43_method_47_code (3 : Nat) (Option.some (Jvm.ClassFile.FieldType.object "java/lang/String")), Jvm.Cond.code ({ cls := "java/util/Arrays", name := "copyOfRange", desc := "([BII)[B" } : Jvm.MethodName) jdk_65_method_132_code (3 : Nat) (Option.some (Jvm.ClassFile.FieldType.array Jvm.ClassFile.FieldType.byte)), Jvm.Cond.code ({ cls := "java/util/Arrays", name := "copyOfRangeByte", desc := "([BII)[B" } : Jvm.MethodName) jdk_65_method_133_code (5 : Nat) (Option.some (Jvm.ClassFile.FieldType.array Jvm.ClassFile.FieldType.byte)), Jvm.Cond.code ({ cls := "java/util/Arrays", name := "checkLength", desc := "(II)V" } : Jvm.MethodName) jdk_65_method_131_code (2 : Nat) (Option.none : Option Jvm.ClassFile.FieldType), Jvm.Cond.code ({ cls := "java/lang/String", name := "<init>", desc := "([BB)V" } : Jvm.MethodName) jdk_42_method_151_code (3 : Nat) (Option.none : Option Jvm.ClassFile.FieldType)]
set_option maxRecDepth 65536 in
theorem codes_eq : words1.filter isCode = codes1 := rfl
theorem w_codes : ∀ c ∈ words1.filter isCode, c.before args0 about1 = true := by
  rw [codes_eq]
  intro c hc
  simp only [codes1, List.mem_cons, List.not_mem_nil, or_false] at hc
  rcases hc with rfl | rfl | rfl | rfl | rfl | rfl | rfl | rfl | rfl | rfl | rfl | rfl | rfl | rfl | rfl | rfl | rfl | rfl | rfl | rfl | rfl | rfl | rfl | rfl | rfl | rfl | rfl | rfl
  · exact w_c0
  · exact w_c1
  · exact w_c2
  · exact w_c3
  · exact w_c4
  · exact w_c5
  · exact w_c6
  · exact w_c7
  · exact w_c8
  · exact w_c9
  · exact w_c10
  · exact w_c11
  · exact w_c12
  · exact w_c13
  · exact w_c14
  · exact w_c15
  · exact w_c16
  · exact w_c17
  · exact w_c18
  · exact w_c19
  · exact w_c20
  · exact w_c21
  · exact w_c22
  · exact w_c23
  · exact w_c24
  · exact w_c25
  · exact w_c26
  · exact w_c27
set_option maxRecDepth 65536 in
theorem w_t1 : (words1.take 24).all (fun c => isCode c || c.before args0 about1) = true := by decide +kernel
set_option maxRecDepth 65536 in
theorem w_t2 : ((words1.drop 24).take 24).all (fun c => isCode c || c.before args0 about1) = true := by decide +kernel
set_option maxRecDepth 65536 in
theorem w_t3 : (((words1.drop 24).drop 24).take 24).all (fun c => isCode c || c.before args0 about1) = true := by decide +kernel
set_option maxRecDepth 65536 in
theorem w_t4 : ((((words1.drop 24).drop 24).drop 24).take 24).all (fun c => isCode c || c.before args0 about1) = true := by decide +kernel
set_option maxRecDepth 65536 in
theorem w_t5 : (((((words1.drop 24).drop 24).drop 24).drop 24).take 24).all (fun c => isCode c || c.before args0 about1) = true := by decide +kernel
set_option maxRecDepth 65536 in
theorem w_t6 : (((((words1.drop 24).drop 24).drop 24).drop 24).drop 24).all (fun c => isCode c || c.before args0 about1) = true := by decide +kernel
theorem w_tables : (allAtoms (Jvm.Cond.code x code maxLocals ret :: tables_1)).before args0 about1 = true := by
  rw [allAtoms_all]
  show words1.all (fun c => c.before args0 about1) = true
  refine all_split ?_ w_codes
  rw [← List.take_append_drop 24 words1, List.all_append, w_t1, ← List.take_append_drop 24 (words1.drop 24), List.all_append, w_t2, ← List.take_append_drop 24 ((words1.drop 24).drop 24), List.all_append, w_t3, ← List.take_append_drop 24 (((words1.drop 24).drop 24).drop 24), List.all_append, w_t4, ← List.take_append_drop 24 ((((words1.drop 24).drop 24).drop 24).drop 24), List.all_append, w_t5, w_t6]
  rfl
set_option maxRecDepth 65536 in
theorem w_rest : rest_1_c.before args0 about1 = true := by decide +kernel
set_option maxRecDepth 65536 in
theorem w_case : (Jvm.Cond.and given_1 narrow_1).before args0 about1 = true := by decide +kernel
set_option maxRecDepth 65536 in
theorem w_consts : constsHeld consts_1 about1 := Jvm.Lit.constsHeldB_iff.mp (by decide +kernel)
theorem w_applies : (headSpec (Jvm.Cond.code x code maxLocals ret :: tables_1) room_1).applies x e0.platform about1 = true :=
  (Spec.applies_iff w_frames).mpr ⟨w_running, w_runnable, w_alone, w_named, w_hears, w_ripe, w_room, w_tables⟩
theorem atStart : AtStart classFile x code maxLocals ret World_1 tables_1 room_1 Calls_1 rest_1 Pre_1 launch0 p0 e0 about1 theMethod args0 below0 :=
  ⟨lists_1, trivial, launch0.admits_env _ _ _, launch0.least_env, fairChoices_fair.cas, fairChoices_fair.clock, w_frames, w_args, w_heap, w_applies, ⟨w_consts, trivial⟩, w_rest, w_case⟩
end start1
theorem witness_1 : WitnessClaimed_1 := ⟨start1.p0, start1.e0, start1.about1, start1.theMethod, start1.args0, start1.below0, start1.atStart⟩
end Jvm.Pilot.@@N@@
