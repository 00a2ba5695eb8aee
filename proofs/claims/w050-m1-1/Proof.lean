import JvmDerived
import JvmDerived.Pilot.@@N@@Statement
import JvmDerived.Pilot.@@N@@Code
set_option linter.unusedVariables false
set_option linter.unusedSimpArgs false
/- laws to paste: Road.backV, Road.lenW, Road.codOf (cut by pick.py; bodies as the Statement names them) -/
namespace Jvm.Pilot.@@N@@
namespace StrChars
open Jvm Sem ClassFile Op Lib Jvm.Stand Jvm.Free.XT Jvm.Free.ALB Jvm.Free.JM Jvm.Free
open Jvm.Lib.Cold (StaticIs)
/-- a char array whose places are chars -/
def Ch (a : Addr) (A : Cell) (U : State) : Prop := Arr .char a A U ∧ Typed .char A
theorem Ch.mv {a : Addr} {A : Cell} {U U' : State} (h : Ch a A U) (hal : U.vm.Alike U'.vm) (hh : U'.heap = U.heap) : Ch a A U' := ⟨h.1.mv hal hh, h.2⟩
theorem Ch.keep {a : Addr} {A : Cell} {U U' : State} (h : Ch a A U) (hal : U.vm.Alike U'.vm) (hk : U'.heap[a]? = some A) : Ch a A U' := ⟨h.1.keep hal hk, h.2⟩
/-- what place i of a char[]'s cell holds -/
def cv (A : Cell) (i : Nat) : Int32 := match A.slots[i]? with | some (.int x) => x | _ => 0
theorem Ch.get {a : Addr} {A : Cell} {U : State} (h : Ch a A U) {i : Nat} (hi : i < A.slots.size) : A.slots[i]? = some (.int (cv A i)) := by
  have e := Array.getElem?_eq_getElem hi
  have f := h.2 i _ e
  unfold cv; rw [e]
  generalize A.slots[i] = v at f
  cases v <;> simp [fits] at f ⊢
/-- the byte that i2b leaves of a char -/
def lo8 (x : Int32) : Int32 := x.toInt8.toInt32
theorem fits_lo8 (y : Int32) : fits .byte (.int (lo8 y)) = true := by
  have h1 := y.toInt8.le_toInt
  have h2 := y.toInt8.toInt_lt
  simp only [lo8, fits, Bool.and_eq_true, decide_eq_true_eq, Int32.le_iff_toInt_le, Int8.toInt_toInt32, show (-128 : Int32).toInt = -128 from by decide, show (127 : Int32).toInt = 127 from by decide]
  omega
/-- A' is A but that each place j of lo .. hi - 1 holds f j -/
def Laid (A A' : Cell) (lo hi : Nat) (f : Nat → Value) : Prop := A'.cls = A.cls ∧ A'.vm = A.vm ∧ A'.slots.size = A.slots.size ∧ ∀ i, A'.slots[i]? = if lo ≤ i ∧ i < hi then some (f i) else A.slots[i]?
theorem Laid.zero (A : Cell) (lo : Nat) (f : Nat → Value) : Laid A A lo (lo + 0) f := ⟨rfl, rfl, rfl, fun i => by rw [if_neg (by omega)]⟩
theorem Laid.step {A Ak : Cell} {lo k : Nat} {f : Nat → Value} {v : Value} (h : Laid A Ak lo k f) (hlo : lo ≤ k) (hk : k < Ak.slots.size) (hv : v = f k) : Laid A (Ak.setSlot k v) lo (k + 1) f := by
  refine ⟨h.1, h.2.1, by simpa [Cell.setSlot] using h.2.2.1, fun i => ?_⟩
  by_cases e : k = i
  · subst e; rw [Cell.slots_setSlot_self v hk, if_pos (by omega), hv]
  · rw [Cell.slots_setSlot_ne v e, h.2.2.2 i]
    by_cases q : lo ≤ i ∧ i < k
    · rw [if_pos q, if_pos (by omega)]
    · rw [if_neg q, if_neg (by omega)]
def U16 : String := "java/lang/StringUTF16"
namespace Cmp5
def yN : MethodName := ⟨"java/lang/StringUTF16", "compress", "([CI[BII)I"⟩
abbrev yB : ByteArray := jdk_52_method_21_code
theorem d0 : decode yB 0 = .ok (.iconst 0, 1) := by decide +kernel
theorem d1 : decode yB 1 = .ok (.istore 5, 2) := by decide +kernel
theorem d3 : decode yB 3 = .ok (.iload 5, 2) := by decide +kernel
theorem d5 : decode yB 5 = .ok (.iload 4, 2) := by decide +kernel
theorem d7 : decode yB 7 = .ok (.if_icmp (.ge) 37, 3) := by decide +kernel
theorem d10 : decode yB 10 = .ok (.aload_n 0, 1) := by decide +kernel
theorem d11 : decode yB 11 = .ok (.iload_n 1, 1) := by decide +kernel
theorem d12 : decode yB 12 = .ok (.caload, 1) := by decide +kernel
theorem d13 : decode yB 13 = .ok (.istore 6, 2) := by decide +kernel
theorem d15 : decode yB 15 = .ok (.iload 6, 2) := by decide +kernel
theorem d17 : decode yB 17 = .ok (.sipush 255, 3) := by decide +kernel
theorem d20 : decode yB 20 = .ok (.if_icmp (.le) 6, 3) := by decide +kernel
theorem d26 : decode yB 26 = .ok (.aload_n 2, 1) := by decide +kernel
theorem d27 : decode yB 27 = .ok (.iload_n 3, 1) := by decide +kernel
theorem d28 : decode yB 28 = .ok (.iload 6, 2) := by decide +kernel
theorem d30 : decode yB 30 = .ok (.i2b, 1) := by decide +kernel
theorem d31 : decode yB 31 = .ok (.bastore, 1) := by decide +kernel
theorem d32 : decode yB 32 = .ok (.iinc 1 1, 3) := by decide +kernel
theorem d35 : decode yB 35 = .ok (.iinc 3 1, 3) := by decide +kernel
theorem d38 : decode yB 38 = .ok (.iinc 5 1, 3) := by decide +kernel
theorem d41 : decode yB 41 = .ok (.goto (-38), 3) := by decide +kernel
theorem d44 : decode yB 44 = .ok (.iload 4, 2) := by decide +kernel
theorem d46 : decode yB 46 = .ok (.ireturn, 1) := by decide +kernel
def site : List Cond := []
def tab : Cond := tabOf yN yB 7 (some .int) site
def P (b : Addr) (A : Cell) (d : Addr) (B : Cell) (o q len : Nat) (args : Array Value) (s : State) : Prop := args = #[.ref b, .int (Int32.ofNat o), .ref d, .int (Int32.ofNat q), .int (Int32.ofNat len)] ∧ Ch b A s ∧ Arr .byte d B s ∧ b ≠ d ∧ o + len ≤ A.slots.size ∧ q + len ≤ B.slots.size ∧ ∀ i, i < len → ¬ 255 < cv A (o + i)
def E (b : Addr) (A : Cell) (d : Addr) (B : Cell) (o q len : Nat) (r : Option Value) (s u : State) : Prop := r = some (.int (Int32.ofNat len)) ∧ ∃ B', Put d B' s u ∧ Laid B B' q (q + len) (fun j => Value.int (lo8 (cv A (o + (j - q)))))
/-- no char of the range above 255: len; the places written hold each char's low byte -/
theorem law (l : Launch) (b : Addr) (A : Cell) (d : Addr) (B : Cell) (o q len : Nat) : Law l yN 5 5 0 0 yB 7 (some .int) site (P b A d B o q len) (E b A d B o q len) (copyLocs d q len) 0 0 := by
  refine Law.of_walk (plainFor_of_name (by decide +kernel)) (by decide +kernel) (by decide +kernel) (by decide) (fun _ _ h => by rw [h.1]; rfl) (fun _ U U' hal hh h => ⟨h.1, h.2.1.mv hal hh, h.2.2.1.mv hal hh, h.2.2.2⟩) (fun r U U' V V' h1 hal h2 h => ⟨h.1, h.2.elim fun B' q => ⟨B', q.1.mv h1 h2, q.2⟩⟩) ?_
  intro p e s m args below meth c s₁ X0 hexec hbytes hml hret hlk hnm hown hh0 W hP
  obtain ⟨rfl, hA, hB, hne, l1, l2, hp⟩ := hP
  have c1 : Steps p.tables e below (s₁.setTop (entryFrame m #[.ref b, .int (Int32.ofNat o), .ref d, .int (Int32.ofNat q), .int (Int32.ofNat len)] 7)) (s₁.setTop (mkF m 0 #[.val (.ref b), .val (.int (Int32.ofNat o)), .val (.ref d), .val (.int (Int32.ofNat q)), .val (.int (Int32.ofNat len)), .unset, .unset] [])) := entry rfl
  have hA0 := hA.1.mv X0.warmed.alike hh0
  have hB0 := hB.mv X0.warmed.alike hh0
  have a31 := hA.1.2.2.2
  have c2 : Steps p.tables e below (s₁.setTop (entryFrame m #[.ref b, .int (Int32.ofNat o), .ref d, .int (Int32.ofNat q), .int (Int32.ofNat len)] 7)) (s₁.setTop (mkF m 3 #[.val (.ref b), .val (.int (Int32.ofNat o)), .val (.ref d), .val (.int (Int32.ofNat q)), .val (.int (Int32.ofNat len)), .val (.int 0), .unset] [])) := c1.trans (by
    refine iconstV X0.here hexec rfl 0 (hb hbytes d0) (by decide) ?_
    refine XS.istore X0.here hexec rfl (hb hbytes d1) rfl rfl ?_
    exact Steps.refl _)
  have loop : ∀ (r i : Nat), i + r = len → ∀ (z : Slot), (z = .unset ∨ ∃ w, z = .val w ∧ w.category = 1) → ∀ (Tl : State) (Bk : Cell), Stand p l e { frames := 0, locals := 0, cells := 0, slots := 0 } s m #[.ref b, .int (Int32.ofNat o), .ref d, .int (Int32.ofNat q), .int (Int32.ofNat len)] below meth c Tl ([] ++ copyLocs d q i) 0 0 → Put d Bk s₁ Tl → Laid B Bk q (q + i) (fun j => Value.int (lo8 (cv A (o + (j - q))))) →
      Steps p.tables e below (s₁.setTop (entryFrame m #[.ref b, .int (Int32.ofNat o), .ref d, .int (Int32.ofNat q), .int (Int32.ofNat len)] 7)) (Tl.setTop (mkF m 3 #[.val (.ref b), .val (.int (Int32.ofNat (o + i))), .val (.ref d), .val (.int (Int32.ofNat (q + i))), .val (.int (Int32.ofNat len)), .val (.int (Int32.ofNat i)), z] [])) → ∃ (T' : State) (B' : Cell) (z' : Slot), Stand p l e { frames := 0, locals := 0, cells := 0, slots := 0 } s m #[.ref b, .int (Int32.ofNat o), .ref d, .int (Int32.ofNat q), .int (Int32.ofNat len)] below meth c T' ([] ++ copyLocs d q len) 0 0 ∧ Put d B' s₁ T' ∧ Laid B B' q (q + len) (fun j => Value.int (lo8 (cv A (o + (j - q))))) ∧
      Steps p.tables e below (s₁.setTop (entryFrame m #[.ref b, .int (Int32.ofNat o), .ref d, .int (Int32.ofNat q), .int (Int32.ofNat len)] 7)) (T'.setTop (mkF m 3 #[.val (.ref b), .val (.int (Int32.ofNat (o + len))), .val (.ref d), .val (.int (Int32.ofNat (q + len))), .val (.int (Int32.ofNat len)), .val (.int (Int32.ofNat len)), z'] [])) := by
    intro r
    induction r with
    | zero =>
      intro i hi z hz Tl Bk Xl pl fl cl
      have hil : i = len := by omega
      rw [hil] at Xl fl cl
      exact ⟨Tl, Bk, z, Xl, pl, fl, cl⟩
    | succ r ih =>
      intro i hi z hz Tl Bk Xl pl fl cl
      have all := X0.warmed.alike.symm.trans Xl.warmed.alike
      have hAl := hA0.keep all (pl.other hne hA0.1)
      have hBk := hB0.like all pl.1 fl.1 fl.2.1 fl.2.2.1
      have hlt : q + i < Bk.slots.size := by rw [fl.2.2.1]; omega
      have c3 : Steps p.tables e below (s₁.setTop (entryFrame m #[.ref b, .int (Int32.ofNat o), .ref d, .int (Int32.ofNat q), .int (Int32.ofNat len)] 7)) (Tl.setTop (mkF m 12 #[.val (.ref b), .val (.int (Int32.ofNat (o + i))), .val (.ref d), .val (.int (Int32.ofNat (q + i))), .val (.int (Int32.ofNat len)), .val (.int (Int32.ofNat i)), z] [.int (Int32.ofNat (o + i)), .ref b])) := cl.trans (by
        refine XS.iload Xl.here hexec rfl (hb hbytes d3) rfl ?_
        refine XS.iload Xl.here hexec rfl (hb hbytes d5) rfl ?_
        refine XS.icmpNo Xl.here hexec rfl (hb hbytes d7) rfl (ii_ge_f (lt32 (by omega) (by omega))) ?_
        refine XS.aloadN Xl.here hexec rfl (hb hbytes d10) rfl rfl ?_
        refine XS.iloadN Xl.here hexec rfl (hb hbytes d11) rfl ?_
        exact Steps.refl _)
      have c4 : Steps p.tables e below (s₁.setTop (entryFrame m #[.ref b, .int (Int32.ofNat o), .ref d, .int (Int32.ofNat q), .int (Int32.ofNat len)] 7)) (Tl.setTop (mkF m 13 #[.val (.ref b), .val (.int (Int32.ofNat (o + i))), .val (.ref d), .val (.int (Int32.ofNat (q + i))), .val (.int (Int32.ofNat len)), .val (.int (Int32.ofNat i)), z] [.int (cv A (o + i))])) := c3.trans (by
        refine Xl.aget hexec hAl rfl (hA.get (i := o + i) (by omega)) rfl rfl (hb hbytes d12) ?_
        exact Steps.refl _)
      have c5 : Steps p.tables e below (s₁.setTop (entryFrame m #[.ref b, .int (Int32.ofNat o), .ref d, .int (Int32.ofNat q), .int (Int32.ofNat len)] 7)) (Tl.setTop (mkF m 15 #[.val (.ref b), .val (.int (Int32.ofNat (o + i))), .val (.ref d), .val (.int (Int32.ofNat (q + i))), .val (.int (Int32.ofNat len)), .val (.int (Int32.ofNat i)), .val (.int (cv A (o + i)))] [])) := c4.trans (by
        refine XS.istoreS Xl.here hexec rfl (hb hbytes d13) rfl rfl hz ?_
        exact Steps.refl _)
      have c6 : Steps p.tables e below (s₁.setTop (entryFrame m #[.ref b, .int (Int32.ofNat o), .ref d, .int (Int32.ofNat q), .int (Int32.ofNat len)] 7)) (Tl.setTop (mkF m 31 #[.val (.ref b), .val (.int (Int32.ofNat (o + i))), .val (.ref d), .val (.int (Int32.ofNat (q + i))), .val (.int (Int32.ofNat len)), .val (.int (Int32.ofNat i)), .val (.int (cv A (o + i)))] [.int (lo8 (cv A (o + i))), .int (Int32.ofNat (q + i)), .ref d])) := c5.trans (by
        refine XS.iload Xl.here hexec rfl (hb hbytes d15) rfl ?_
        refine sipushV Xl.here hexec rfl 255 (hb hbytes d17) (by decide) ?_
        refine XS.icmpYes Xl.here hexec rfl (pc0 := 20) rfl (hb hbytes d20) rfl (ii_le_t (hp i (by omega))) (by decide) rfl ?_
        refine XS.aloadN Xl.here hexec rfl (hb hbytes d26) rfl rfl ?_
        refine XS.iloadN Xl.here hexec rfl (hb hbytes d27) rfl ?_
        refine XS.iload Xl.here hexec rfl (hb hbytes d28) rfl ?_
        refine i2b Xl.here hexec rfl (hb hbytes d30) rfl ?_
        exact Steps.refl _)
      obtain ⟨T7, X7, p7, st7⟩ := Xl.aput hexec hBk rfl hlt rfl (fits_lo8 (cv A (o + i))) (g := (mkF m 31 #[.val (.ref b), .val (.int (Int32.ofNat (o + i))), .val (.ref d), .val (.int (Int32.ofNat (q + i))), .val (.int (Int32.ofNat len)), .val (.int (Int32.ofNat i)), .val (.int (cv A (o + i)))] [.int (lo8 (cv A (o + i))), .int (Int32.ofNat (q + i)), .ref d])) rfl (rest := []) rfl (hb hbytes d31)
      have c8 : Steps p.tables e below (s₁.setTop (entryFrame m #[.ref b, .int (Int32.ofNat o), .ref d, .int (Int32.ofNat q), .int (Int32.ofNat len)] 7)) (T7.setTop (mkF m 32 #[.val (.ref b), .val (.int (Int32.ofNat (o + i))), .val (.ref d), .val (.int (Int32.ofNat (q + i))), .val (.int (Int32.ofNat len)), .val (.int (Int32.ofNat i)), .val (.int (cv A (o + i)))] [])) := c6.trans (st7 _ (Steps.refl _))
      have c9 : Steps p.tables e below (s₁.setTop (entryFrame m #[.ref b, .int (Int32.ofNat o), .ref d, .int (Int32.ofNat q), .int (Int32.ofNat len)] 7)) (T7.setTop (mkF m 3 #[.val (.ref b), .val (.int (Int32.ofNat (o + i) + 1)), .val (.ref d), .val (.int (Int32.ofNat (q + i) + 1)), .val (.int (Int32.ofNat len)), .val (.int (Int32.ofNat i + 1)), .val (.int (cv A (o + i)))] [])) := c8.trans (by
        refine iincV X7.here hexec rfl 1 (hb hbytes d32) (by decide) rfl rfl ?_
        refine iincV X7.here hexec rfl 1 (hb hbytes d35) (by decide) rfl rfl ?_
        refine iincV X7.here hexec rfl 1 (hb hbytes d38) (by decide) rfl rfl ?_
        refine XS.goto X7.here hexec rfl (pc0 := 41) rfl (hb hbytes d41) (by decide) rfl ?_
        exact Steps.refl _)
      have c10 : Steps p.tables e below (s₁.setTop (entryFrame m #[.ref b, .int (Int32.ofNat o), .ref d, .int (Int32.ofNat q), .int (Int32.ofNat len)] 7)) (T7.setTop (mkF m 3 #[.val (.ref b), .val (.int (Int32.ofNat (o + (i + 1)))), .val (.ref d), .val (.int (Int32.ofNat (q + (i + 1)))), .val (.int (Int32.ofNat len)), .val (.int (Int32.ofNat (i + 1))), .val (.int (cv A (o + i)))] [])) := by
        have := c9
        rw [succ32, succ32, succ32] at this
        exact this
      exact ih (i + 1) (by omega) _ (Or.inr ⟨_, rfl, rfl⟩) T7 _ (by rw [copyLocs_step, ← List.append_assoc]; exact X7) (pl.trans p7) (fl.step (by omega) hlt (by simp)) c10
  obtain ⟨T9, B9, z9, X9, p9, f9, g9⟩ := loop len 0 (by omega) .unset (Or.inl rfl) s₁ B (by simpa [copyLocs] using X0) ⟨hB0.1, fun _ _ => rfl, rfl⟩ (Laid.zero _ _ _) c2
  have c11 : Steps p.tables e below (s₁.setTop (entryFrame m #[.ref b, .int (Int32.ofNat o), .ref d, .int (Int32.ofNat q), .int (Int32.ofNat len)] 7)) (T9.setTop (mkF m 46 #[.val (.ref b), .val (.int (Int32.ofNat (o + len))), .val (.ref d), .val (.int (Int32.ofNat (q + len))), .val (.int (Int32.ofNat len)), .val (.int (Int32.ofNat len)), z9] [.int (Int32.ofNat len)])) := g9.trans (by
    refine XS.iload X9.here hexec rfl (hb hbytes d3) rfl ?_
    refine XS.iload X9.here hexec rfl (hb hbytes d5) rfl ?_
    refine XS.icmpYes X9.here hexec rfl (pc0 := 7) rfl (hb hbytes d7) rfl (ii_ge_t (nlt32 (by omega) (Nat.le_refl _))) (by decide) rfl ?_
    refine XS.iload X9.here hexec rfl (hb hbytes d44) rfl ?_
    exact Steps.refl _)
  exact ⟨T9, some (.int (Int32.ofNat len)), _, _, _, X9, by simp, rfl, rfl, (fun h => by cases h), ⟨rfl, B9, p9.from hh0, f9⟩, fun fs hl => c11.trans (X9.ireturnOut hexec hret rfl (Or.inl rfl) (hb hbytes d46) hl)⟩
end Cmp5
namespace Cmp3
def yN : MethodName := ⟨"java/lang/StringUTF16", "compress", "([CII)[B"⟩
abbrev yB : ByteArray := jdk_52_method_16_code
theorem d0 : decode yB 0 = .ok (.iload_n 2, 1) := by decide +kernel
theorem d1 : decode yB 1 = .ok (.newarray .byte, 2) := by decide +kernel
theorem d3 : decode yB 3 = .ok (.astore_n 3, 1) := by decide +kernel
theorem d4 : decode yB 4 = .ok (.aload_n 0, 1) := by decide +kernel
theorem d5 : decode yB 5 = .ok (.iload_n 1, 1) := by decide +kernel
theorem d6 : decode yB 6 = .ok (.aload_n 3, 1) := by decide +kernel
theorem d7 : decode yB 7 = .ok (.iconst 0, 1) := by decide +kernel
theorem d8 : decode yB 8 = .ok (.iload_n 2, 1) := by decide +kernel
theorem d9 : decode yB 9 = .ok (.invokestatic 115, 3) := by decide +kernel
theorem d12 : decode yB 12 = .ok (.istore 4, 2) := by decide +kernel
theorem d14 : decode yB 14 = .ok (.iload 4, 2) := by decide +kernel
theorem d16 : decode yB 16 = .ok (.iload_n 2, 1) := by decide +kernel
theorem d17 : decode yB 17 = .ok (.if_icmp (.eq) 40, 3) := by decide +kernel
theorem d57 : decode yB 57 = .ok (.aload_n 3, 1) := by decide +kernel
theorem d58 : decode yB 58 = .ok (.areturn, 1) := by decide +kernel
def site : List Cond := [.arrayClass .byte, Cmp5.tab] ++ staticW U16 115 Cmp5.yN
def tab : Cond := tabOf yN yB 6 (some (.array .byte)) site
def P (b : Addr) (A : Cell) (o len : Nat) (args : Array Value) (s : State) : Prop := args = #[.ref b, .int (Int32.ofNat o), .int (Int32.ofNat len)] ∧ Ch b A s ∧ o + len ≤ A.slots.size ∧ len ≤ 536870912 ∧ ∀ i, i < len → ¬ 255 < cv A (o + i)
def E (b : Addr) (A : Cell) (o len : Nat) (r : Option Value) (s u : State) : Prop := NewArr .byte "[B" len (fun j => .int (lo8 (cv A (o + j)))) r s u ∧ u.heap.size = s.heap.size + 1
/-- no char of the range above 255: a new byte[] of their low bytes -/
theorem law (l : Launch) (b : Addr) (A : Cell) (o len : Nat) : Law l yN 3 3 1 18 yB 6 (some (.array .byte)) site (P b A o len) (E b A o len) [] 1 len := by
  refine Law.of_walk (plainFor_of_name (by decide +kernel)) (by decide +kernel) (by decide +kernel) (by decide) (fun _ _ h => by rw [h.1]; rfl) (fun _ U U' hal hh h => ⟨h.1, h.2.1.mv hal hh, h.2.2⟩) (fun r U U' V V' h1 hal h2 h => ⟨NewArr.mv r U U' V V' h1 hal h2 h.1, by rw [h1, h2]; exact h.2⟩) ?_
  intro p e s m args below meth c s₁ X0 hexec hbytes hml hret hlk hnm hown hh0 W hP
  obtain ⟨rfl, hA, l1, l2, hp⟩ := hP
  have a31 := hA.1.2.2.2
  have c1 : Steps p.tables e below (s₁.setTop (entryFrame m #[.ref b, .int (Int32.ofNat o), .int (Int32.ofNat len)] 6)) (s₁.setTop (mkF m 0 #[.val (.ref b), .val (.int (Int32.ofNat o)), .val (.int (Int32.ofNat len)), .unset, .unset, .unset] [])) := entry rfl
  have c2 : Steps p.tables e below (s₁.setTop (entryFrame m #[.ref b, .int (Int32.ofNat o), .int (Int32.ofNat len)] 6)) (s₁.setTop (mkF m 1 #[.val (.ref b), .val (.int (Int32.ofNat o)), .val (.int (Int32.ofNat len)), .unset, .unset, .unset] [.int (Int32.ofNat len)])) := c1.trans (by
    refine XS.iloadN X0.here hexec rfl (hb hbytes d0) rfl ?_
    exact Steps.refl _)
  obtain ⟨T3, B3, X3, ba3, bs3, bv3, bh3, bf3, st3⟩ := X0.anew hexec (atype := .byte) (wk W (.arrayClass .byte)) rfl (by show len * 1 ≤ _; omega) (by omega) (g := (mkF m 1 #[.val (.ref b), .val (.int (Int32.ofNat o)), .val (.int (Int32.ofNat len)), .unset, .unset, .unset] [.int (Int32.ofNat len)])) rfl (hb hbytes d1) (rest := []) rfl (Nat.le_refl _) (by show 0 + len ≤ len; omega)
  rw [hh0] at ba3 st3
  have kp3 : XT.Kept s T3 := (XT.Kept.of_eq hh0).push bh3
  have hA3 := hA.keep X3.warmed.alike (kp3 _ _ hA.1.1)
  have hne : b ≠ s.heap.size := hA.1.ne
  have c4 : Steps p.tables e below (s₁.setTop (entryFrame m #[.ref b, .int (Int32.ofNat o), .int (Int32.ofNat len)] 6)) (T3.setTop (mkF m 3 #[.val (.ref b), .val (.int (Int32.ofNat o)), .val (.int (Int32.ofNat len)), .unset, .unset, .unset] [.ref s.heap.size])) := c2.trans (st3 _ (Steps.refl _))
  have c5 : Steps p.tables e below (s₁.setTop (entryFrame m #[.ref b, .int (Int32.ofNat o), .int (Int32.ofNat len)] 6)) (T3.setTop (mkF m 9 #[.val (.ref b), .val (.int (Int32.ofNat o)), .val (.int (Int32.ofNat len)), .val (.ref s.heap.size), .unset, .unset] [.int (Int32.ofNat len), .int 0, .ref s.heap.size, .int (Int32.ofNat o), .ref b])) := c4.trans (by
    refine XS.astoreN X3.here hexec rfl (hb hbytes d3) rfl rfl rfl ?_
    refine XS.aloadN X3.here hexec rfl (hb hbytes d4) rfl rfl ?_
    refine XS.iloadN X3.here hexec rfl (hb hbytes d5) rfl ?_
    refine XS.aloadN X3.here hexec rfl (hb hbytes d6) rfl rfl ?_
    refine iconstV X3.here hexec rfl 0 (hb hbytes d7) (by decide) ?_
    refine XS.iloadN X3.here hexec rfl (hb hbytes d8) rfl ?_
    exact Steps.refl _)
  obtain ⟨v6, T6, X6, E6, g6⟩ := X3.callS hexec (Cmp5.law l b A s.heap.size B3 o 0 len) hown (wks W (staticW U16 115 Cmp5.yN)) (wk W Cmp5.tab) (W := 0) (Nat.le_of_ble_eq_true rfl) (Nat.le_of_ble_eq_true rfl) (Nat.le_refl _) (by show 0 + len + 0 ≤ len; omega) (g := (mkF m 9 #[.val (.ref b), .val (.int (Int32.ofNat o)), .val (.int (Int32.ofNat len)), .val (.ref s.heap.size), .unset, .unset] [.int (Int32.ofNat len), .int (Int32.ofNat 0), .ref s.heap.size, .int (Int32.ofNat o), .ref b])) rfl (by rw [hml]; rfl) c5 (argsL := [.ref b, .int (Int32.ofNat o), .ref s.heap.size, .int (Int32.ofNat 0), .int (Int32.ofNat len)]) (rest := []) rfl rfl (by show 2 * 0 + 0 ≤ _; decide) (hb hbytes d9) (⟨rfl, hA3, ba3, hne, l1, by rw [bs3]; simp, hp⟩)
  obtain ⟨rfl, B6, p6, f6⟩ := E6
  have c7 : Steps p.tables e below (s₁.setTop (entryFrame m #[.ref b, .int (Int32.ofNat o), .int (Int32.ofNat len)] 6)) (T6.setTop (mkF m 12 #[.val (.ref b), .val (.int (Int32.ofNat o)), .val (.int (Int32.ofNat len)), .val (.ref s.heap.size), .unset, .unset] [.int (Int32.ofNat len)])) := g6
  have c8 : Steps p.tables e below (s₁.setTop (entryFrame m #[.ref b, .int (Int32.ofNat o), .int (Int32.ofNat len)] 6)) (T6.setTop (mkF m 58 #[.val (.ref b), .val (.int (Int32.ofNat o)), .val (.int (Int32.ofNat len)), .val (.ref s.heap.size), .val (.int (Int32.ofNat len)), .unset] [.ref s.heap.size])) := c7.trans (by
    refine XS.istore X6.here hexec rfl (hb hbytes d12) rfl rfl ?_
    refine XS.iload X6.here hexec rfl (hb hbytes d14) rfl ?_
    refine XS.iloadN X6.here hexec rfl (hb hbytes d16) rfl ?_
    refine XS.icmpYes X6.here hexec rfl (pc0 := 17) rfl (hb hbytes d17) rfl (ii_eq_t rfl) (by decide) rfl ?_
    refine XS.aloadN X6.here hexec rfl (hb hbytes d57) rfl rfl ?_
    exact Steps.refl _)
  have X8 := X6.wide (L' := []) (cells' := 1) (slots' := len) (fun x hx hlt => by
    simp only [List.nil_append, copyLocs, List.mem_map, List.mem_range] at hx
    obtain ⟨i, -, rfl⟩ := hx
    exact absurd hlt (Nat.lt_irrefl _)) (Nat.le_refl _) (by omega)
  exact ⟨T6, some (.ref s.heap.size), _, _, _, X8, rfl, rfl, rfl, (fun h => by cases h), ⟨⟨rfl, B6, ba3.like (X3.warmed.alike.symm.trans X6.warmed.alike) p6.1 f6.1 f6.2.1 f6.2.2.1, f6.2.1.trans bv3, by rw [X6.warmed.alike.findClass, f6.1]; exact bf3, by rw [f6.2.2.1, bs3]; simp, fun j hj => by rw [f6.2.2.2 j, if_pos (by omega)]; rfl, kp3.put p6 (Nat.le_refl _)⟩, by rw [p6.2.2, bh3, hh0]; simp⟩, fun fs hl => c8.trans (X8.areturnOut hexec rfl hret rfl (hb hbytes d58) hl)⟩
end Cmp3
namespace CodL
def yN : MethodName := ⟨"java/lang/StringUTF16", "coderFromArrayLen", "([BI)B"⟩
abbrev yB : ByteArray := jdk_52_method_15_code
theorem d0 : decode yB 0 = .ok (.iload_n 1, 1) := by decide +kernel
theorem d1 : decode yB 1 = .ok (.aload_n 0, 1) := by decide +kernel
theorem d2 : decode yB 2 = .ok (.arraylength, 1) := by decide +kernel
theorem d3 : decode yB 3 = .ok (.isub, 1) := by decide +kernel
theorem d4 : decode yB 4 = .ok (.bipush 31, 2) := by decide +kernel
theorem d6 : decode yB 6 = .ok (.iushr, 1) := by decide +kernel
theorem d7 : decode yB 7 = .ok (.i2b, 1) := by decide +kernel
theorem d8 : decode yB 8 = .ok (.ireturn, 1) := by decide +kernel
def site : List Cond := []
def tab : Cond := tabOf yN yB 2 (some .byte) site
def P (d : Addr) (B : Cell) (args : Array Value) (s : State) : Prop := args = #[.ref d, .int (Int32.ofNat B.slots.size)] ∧ Arr .byte d B s
def E (r : Option Value) (s u : State) : Prop := XT.PureE (some (.int 0)) r s u
/-- an array as long as the number of chars: LATIN1 -/
theorem law (l : Launch) (d : Addr) (B : Cell) : Law l yN 2 2 0 0 yB 2 (some .byte) site (P d B) E [] 0 0 := by
  refine Law.of_walk (plainFor_of_name (by decide +kernel)) (by decide +kernel) (by decide +kernel) (by decide) (fun _ _ h => by rw [h.1]; rfl) (fun _ U U' hal hh h => ⟨h.1, h.2.mv hal hh⟩) (fun r U U' V V' h1 hal h2 h => XT.PureE.mv r U U' V V' h1 hal h2 h) ?_
  intro p e s m args below meth c s₁ X0 hexec hbytes hml hret hlk hnm hown hh0 W hP
  obtain ⟨rfl, hB⟩ := hP
  have hB0 := hB.mv X0.warmed.alike hh0
  have c1 : Steps p.tables e below (s₁.setTop (entryFrame m #[.ref d, .int (Int32.ofNat B.slots.size)] 2)) (s₁.setTop (mkF m 0 #[.val (.ref d), .val (.int (Int32.ofNat B.slots.size))] [])) := entry rfl
  have c2 : Steps p.tables e below (s₁.setTop (entryFrame m #[.ref d, .int (Int32.ofNat B.slots.size)] 2)) (s₁.setTop (mkF m 2 #[.val (.ref d), .val (.int (Int32.ofNat B.slots.size))] [.ref d, .int (Int32.ofNat B.slots.size)])) := c1.trans (by
    refine XS.iloadN X0.here hexec rfl (hb hbytes d0) rfl ?_
    refine XS.aloadN X0.here hexec rfl (hb hbytes d1) rfl rfl ?_
    exact Steps.refl _)
  have c3 : Steps p.tables e below (s₁.setTop (entryFrame m #[.ref d, .int (Int32.ofNat B.slots.size)] 2)) (s₁.setTop (mkF m 8 #[.val (.ref d), .val (.int (Int32.ofNat B.slots.size))] [.int (lo8 (ushr (Int32.ofNat B.slots.size - Int32.ofNat B.slots.size) 31))])) := c2.trans (by
    refine X0.alen hexec hB0 rfl rfl (hb hbytes d2) ?_
    refine XS.isub X0.here hexec rfl (hb hbytes d3) rfl ?_
    refine bipushV X0.here hexec rfl 31 (hb hbytes d4) (by decide) ?_
    refine iushr X0.here hexec rfl (hb hbytes d6) rfl ?_
    refine i2b X0.here hexec rfl (hb hbytes d7) rfl ?_
    exact Steps.refl _)
  have e0 : lo8 (ushr (Int32.ofNat B.slots.size - Int32.ofNat B.slots.size) 31) = 0 := by rw [Int32.sub_self]; decide
  rw [e0] at c3
  exact ⟨s₁, some (.int 0), _, _, _, X0, rfl, rfl, rfl, (fun h => by cases h), ⟨rfl, hh0⟩, fun fs hl => c3.trans (X0.ireturnOut hexec hret rfl (Or.inr (Or.inr (Or.inl rfl))) (hb hbytes d8) hl)⟩
end CodL
/-- the String at a is Latin-1 over a new byte[] (the heap's one new cell): the low bytes of the len chars of A from o on; every cell but a is kept -/
def Got (a : Addr) (D : Cell) (fV fC : Field) (A : Cell) (o len : Nat) (r : Option Value) (s u : State) : Prop := r = none ∧ ∃ D' V : Cell, Blank "java/lang/String" a D' u ∧ Same D D' [fV.slot, fC.slot] ∧ D'.slots[fV.slot]? = some (.ref s.heap.size) ∧ D'.slots[fC.slot]? = some (.int 0) ∧ Arr .byte s.heap.size V u ∧ V.vm = .none ∧ u.vm.findClass "[B" = some V.cls ∧ V.slots.size = len ∧ (∀ j, j < len → V.slots[j]? = some (.int (lo8 (cv A (o + j))))) ∧ (∀ (y : Addr) (c : Cell), y ≠ a → s.heap[y]? = some c → u.heap[y]? = some c) ∧ u.heap.size = s.heap.size + 1
theorem Got.mv {a : Addr} {D A : Cell} {fV fC : Field} {o len : Nat} : ∀ r (U U' V V' : State), U'.heap = U.heap → V.vm.Alike V'.vm → V'.heap = V.heap → Got a D fV fC A o len r U V → Got a D fV fC A o len r U' V' :=
  fun r U U' V V' h1 hal h2 ⟨e0, D', X, a1, a2, a3, a4, a5, a6, a7, a8, a9, a10, a11⟩ => ⟨e0, D', X, a1.mv hal h2, a2, by rw [h1]; exact a3, a4, by rw [h1]; exact a5.mv hal h2, a6, by rw [hal.findClass]; exact a7, a8, a9, by rw [h1, h2]; exact a10, by rw [h1, h2]; exact a11⟩
namespace New4
def yN : MethodName := ⟨"java/lang/String", "<init>", "([CIILjava/lang/Void;)V"⟩
abbrev yB : ByteArray := jdk_42_method_149_code
theorem d0 : decode yB 0 = .ok (.aload_n 0, 1) := by decide +kernel
theorem d1 : decode yB 1 = .ok (.invokespecial 1, 3) := by decide +kernel
theorem d4 : decode yB 4 = .ok (.iload_n 3, 1) := by decide +kernel
theorem d5 : decode yB 5 = .ok (.ifCond (.ne) 22, 3) := by decide +kernel
theorem d27 : decode yB 27 = .ok (.getstatic 38, 3) := by decide +kernel
theorem d30 : decode yB 30 = .ok (.ifCond (.eq) 28, 3) := by decide +kernel
theorem d33 : decode yB 33 = .ok (.aload_n 1, 1) := by decide +kernel
theorem d34 : decode yB 34 = .ok (.iload_n 2, 1) := by decide +kernel
theorem d35 : decode yB 35 = .ok (.iload_n 3, 1) := by decide +kernel
theorem d36 : decode yB 36 = .ok (.invokestatic 177, 3) := by decide +kernel
theorem d39 : decode yB 39 = .ok (.astore 5, 2) := by decide +kernel
theorem d41 : decode yB 41 = .ok (.aload_n 0, 1) := by decide +kernel
theorem d42 : decode yB 42 = .ok (.aload 5, 2) := by decide +kernel
theorem d44 : decode yB 44 = .ok (.iload_n 3, 1) := by decide +kernel
theorem d45 : decode yB 45 = .ok (.invokestatic 47, 3) := by decide +kernel
theorem d48 : decode yB 48 = .ok (.putfield 15, 3) := by decide +kernel
theorem d51 : decode yB 51 = .ok (.aload_n 0, 1) := by decide +kernel
theorem d52 : decode yB 52 = .ok (.aload 5, 2) := by decide +kernel
theorem d54 : decode yB 54 = .ok (.putfield 9, 3) := by decide +kernel
theorem d57 : decode yB 57 = .ok (.return_, 1) := by decide +kernel
def site : List Cond := [.fieldLink "java/lang/String" 38 "java/lang/String" "COMPACT_STRINGS" "Z", Cmp3.tab, CodL.tab, .laysFinal "java/lang/String" "java/lang/String" "value" "[B", .fieldLink "java/lang/String" 9 "java/lang/String" "value" "[B", .laysFinal "java/lang/String" "java/lang/String" "coder" "B", .fieldLink "java/lang/String" 15 "java/lang/String" "coder" "B"] ++ objW "java/lang/String" 1 ++ staticW "java/lang/String" 177 Cmp3.yN ++ staticW "java/lang/String" 47 CodL.yN
def tab : Cond := tabOf yN yB 6 none site
def P (a : Addr) (D : Cell) (fV fC : Field) (b : Addr) (A : Cell) (z : Int32) (o len : Nat) (args : Array Value) (s : State) : Prop := args = #[.ref a, .ref b, .int (Int32.ofNat o), .int (Int32.ofNat len), .null] ∧ Blank "java/lang/String" a D s ∧ Found "java/lang/String" "value" "[B" fV s ∧ Found "java/lang/String" "coder" "B" fC s ∧ Ch b A s ∧ StaticIs s "java/lang/String" "COMPACT_STRINGS" "Z" (.int z) ∧ ¬ z = 0 ∧ 0 < len ∧ o + len ≤ A.slots.size ∧ len ≤ 536870912 ∧ ∀ i, i < len → ¬ 255 < cv A (o + i)
def E (a : Addr) (D : Cell) (fV fC : Field) (A : Cell) (o len : Nat) (r : Option Value) (s u : State) : Prop := Got a D fV fC A o len r s u
/-- len > 0, no char of the range above 255: a Latin-1 String of their low bytes -/
theorem law (l : Launch) (a : Addr) (D : Cell) (fV fC : Field) (b : Addr) (A : Cell) (z : Int32) (o len : Nat) : Law l yN 5 4 2 35 yB 6 none site (P a D fV fC b A z o len) (E a D fV fC A o len) [⟨a, fC.slot⟩, ⟨a, fV.slot⟩] 1 len := by
  refine Law.of_walk (plainFor_of_name (by decide +kernel)) (by decide +kernel) (by decide +kernel) (by decide) (fun _ _ h => by rw [h.1]; rfl) (fun _ U U' hal hh h => ⟨h.1, h.2.1.mv hal hh, h.2.2.1.al hal, h.2.2.2.1.al hal, h.2.2.2.2.1.mv hal hh, h.2.2.2.2.2.1.there hal hh, h.2.2.2.2.2.2⟩) (fun r U U' V V' h1 hal h2 h => Got.mv r U U' V V' h1 hal h2 h) ?_
  intro p e s m args below meth c s₁ X0 hexec hbytes hml hret hlk hnm hown hh0 W hP
  obtain ⟨rfl, hB, f1, f2, hA, s1, hz, l0, l1, l2, hp⟩ := hP
  have a31 := hA.1.2.2.2
  have c1 : Steps p.tables e below (s₁.setTop (entryFrame m #[.ref a, .ref b, .int (Int32.ofNat o), .int (Int32.ofNat len), .null] 6)) (s₁.setTop (mkF m 0 #[.val (.ref a), .val (.ref b), .val (.int (Int32.ofNat o)), .val (.int (Int32.ofNat len)), .val .null, .unset] [])) := entry rfl
  have c2 : Steps p.tables e below (s₁.setTop (entryFrame m #[.ref a, .ref b, .int (Int32.ofNat o), .int (Int32.ofNat len), .null] 6)) (s₁.setTop (mkF m 1 #[.val (.ref a), .val (.ref b), .val (.int (Int32.ofNat o)), .val (.int (Int32.ofNat len)), .val .null, .unset] [.ref a])) := c1.trans (by
    refine XS.aloadN X0.here hexec rfl (hb hbytes d0) rfl rfl ?_
    exact Steps.refl _)
  obtain ⟨T3, X3, q3, st3⟩ := X0.oinit hexec hown (wks W (objW "java/lang/String" 1)) (g := (mkF m 1 #[.val (.ref a), .val (.ref b), .val (.int (Int32.ofNat o)), .val (.int (Int32.ofNat len)), .val .null, .unset] [.ref a])) rfl (by rw [hml]; rfl) (rest := []) rfl (hb hbytes d1) (W := 0) (by show 2 * 0 + 0 ≤ _; decide) (Nat.le_of_ble_eq_true rfl) (Nat.le_of_ble_eq_true rfl)
  have hh3 := q3.trans hh0
  have c4 : Steps p.tables e below (s₁.setTop (entryFrame m #[.ref a, .ref b, .int (Int32.ofNat o), .int (Int32.ofNat len), .null] 6)) (T3.setTop (mkF m 27 #[.val (.ref a), .val (.ref b), .val (.int (Int32.ofNat o)), .val (.int (Int32.ofNat len)), .val .null, .unset] [])) := (c2.trans (st3 _ (Steps.refl _))).trans (by
    refine XS.iloadN X3.here hexec rfl (hb hbytes d4) rfl ?_
    refine XS.ifYes X3.here hexec rfl (pc0 := 5) rfl (hb hbytes d5) rfl (i0_ne_t (nz32 (by omega) l0)) (by decide) rfl ?_
    exact Steps.refl _)
  obtain ⟨T5, X5, q5, st5⟩ := X3.sget hexec hown (wk W (.fieldLink "java/lang/String" 38 "java/lang/String" "COMPACT_STRINGS" "Z")) s1 (fun _ _ h => by rw [hh3]; exact h) (g := (mkF m 27 #[.val (.ref a), .val (.ref b), .val (.int (Int32.ofNat o)), .val (.int (Int32.ofNat len)), .val .null, .unset] [])) rfl (hb hbytes d27)
  have hh5 := q5.trans hh3
  have c6 : Steps p.tables e below (s₁.setTop (entryFrame m #[.ref a, .ref b, .int (Int32.ofNat o), .int (Int32.ofNat len), .null] 6)) (T5.setTop (mkF m 30 #[.val (.ref a), .val (.ref b), .val (.int (Int32.ofNat o)), .val (.int (Int32.ofNat len)), .val .null, .unset] [.int z])) := c4.trans (st5 _ (Steps.refl _))
  have c7 : Steps p.tables e below (s₁.setTop (entryFrame m #[.ref a, .ref b, .int (Int32.ofNat o), .int (Int32.ofNat len), .null] 6)) (T5.setTop (mkF m 36 #[.val (.ref a), .val (.ref b), .val (.int (Int32.ofNat o)), .val (.int (Int32.ofNat len)), .val .null, .unset] [.int (Int32.ofNat len), .int (Int32.ofNat o), .ref b])) := c6.trans (by
    refine XS.ifNo X5.here hexec rfl (hb hbytes d30) rfl (i0_eq_f hz) ?_
    refine XS.aloadN X5.here hexec rfl (hb hbytes d33) rfl rfl ?_
    refine XS.iloadN X5.here hexec rfl (hb hbytes d34) rfl ?_
    refine XS.iloadN X5.here hexec rfl (hb hbytes d35) rfl ?_
    exact Steps.refl _)
  obtain ⟨v8, T8, X8, E8, g8⟩ := X5.callS hexec (Cmp3.law l b A o len) hown (wks W (staticW "java/lang/String" 177 Cmp3.yN)) (wk W Cmp3.tab) (W := 0) (Nat.le_of_ble_eq_true rfl) (Nat.le_of_ble_eq_true rfl) (Nat.le_refl _) (by show 0 + len ≤ len; omega) (g := (mkF m 36 #[.val (.ref a), .val (.ref b), .val (.int (Int32.ofNat o)), .val (.int (Int32.ofNat len)), .val .null, .unset] [.int (Int32.ofNat len), .int (Int32.ofNat o), .ref b])) rfl (by rw [hml]; rfl) c7 (argsL := [.ref b, .int (Int32.ofNat o), .int (Int32.ofNat len)]) (rest := []) rfl rfl (by show 2 * 0 + 0 ≤ _; decide) (hb hbytes d36) (⟨rfl, hA.mv X5.warmed.alike hh5, l1, l2, hp⟩)
  obtain ⟨e8, z8⟩ := E8
  obtain ⟨rfl, N, n1, n2, n3, n4, n5, n6⟩ := NewArr.mv _ T5 s _ _ hh5.symm (Vm.Alike.refl _) rfl e8
  rw [hh5] at z8
  have hB1 := hB.keep X8.warmed.alike (n6 _ _ hB.1)
  have hne : s.heap.size ≠ a := (Nat.ne_of_lt (Array.getElem?_eq_some_iff.mp hB.1).1).symm
  have c9 : Steps p.tables e below (s₁.setTop (entryFrame m #[.ref a, .ref b, .int (Int32.ofNat o), .int (Int32.ofNat len), .null] 6)) (T8.setTop (mkF m 39 #[.val (.ref a), .val (.ref b), .val (.int (Int32.ofNat o)), .val (.int (Int32.ofNat len)), .val .null, .unset] [.ref s.heap.size])) := g8
  have c10 : Steps p.tables e below (s₁.setTop (entryFrame m #[.ref a, .ref b, .int (Int32.ofNat o), .int (Int32.ofNat len), .null] 6)) (T8.setTop (mkF m 45 #[.val (.ref a), .val (.ref b), .val (.int (Int32.ofNat o)), .val (.int (Int32.ofNat len)), .val .null, .val (.ref s.heap.size)] [.int (Int32.ofNat N.slots.size), .ref s.heap.size, .ref a])) := by
    have hc : Steps p.tables e below (s₁.setTop (entryFrame m #[.ref a, .ref b, .int (Int32.ofNat o), .int (Int32.ofNat len), .null] 6)) (T8.setTop (mkF m 45 #[.val (.ref a), .val (.ref b), .val (.int (Int32.ofNat o)), .val (.int (Int32.ofNat len)), .val .null, .val (.ref s.heap.size)] [.int (Int32.ofNat len), .ref s.heap.size, .ref a])) := c9.trans (by
      refine XS.astore X8.here hexec rfl (hb hbytes d39) rfl rfl rfl ?_
      refine XS.aloadN X8.here hexec rfl (hb hbytes d41) rfl rfl ?_
      refine XS.aload X8.here hexec rfl (hb hbytes d42) rfl rfl ?_
      refine XS.iloadN X8.here hexec rfl (hb hbytes d44) rfl ?_
      exact Steps.refl _)
    rw [n4]; exact hc
  obtain ⟨v11, T11, X11, E11, g11⟩ := X8.callS hexec (CodL.law l s.heap.size N) hown (wks W (staticW "java/lang/String" 47 CodL.yN)) (wk W CodL.tab) (W := 1) (Nat.le_of_ble_eq_true rfl) (Nat.le_of_ble_eq_true rfl) (Nat.le_refl _) (by show 0 + len + 0 ≤ len; omega) (g := (mkF m 45 #[.val (.ref a), .val (.ref b), .val (.int (Int32.ofNat o)), .val (.int (Int32.ofNat len)), .val .null, .val (.ref s.heap.size)] [.int (Int32.ofNat N.slots.size), .ref s.heap.size, .ref a])) rfl (by rw [hml]; rfl) c10 (argsL := [.ref s.heap.size, .int (Int32.ofNat N.slots.size)]) (rest := [.ref a]) rfl rfl (by show 2 * 0 + (1 + 0) ≤ _; decide) (hb hbytes d45) (⟨rfl, n1⟩)
  obtain ⟨rfl, q11⟩ := E11
  have hB11 := hB1.mv (X8.warmed.alike.symm.trans X11.warmed.alike) q11
  have c12 : Steps p.tables e below (s₁.setTop (entryFrame m #[.ref a, .ref b, .int (Int32.ofNat o), .int (Int32.ofNat len), .null] 6)) (T11.setTop (mkF m 48 #[.val (.ref a), .val (.ref b), .val (.int (Int32.ofNat o)), .val (.int (Int32.ofNat len)), .val .null, .val (.ref s.heap.size)] [.int 0, .ref a])) := g11
  obtain ⟨T13, X13, p13, bl13, sl13, st13⟩ := X11.finit hexec hown (wk W (.fieldLink "java/lang/String" 15 "java/lang/String" "coder" "B")) (Or.inr ⟨_, (wk W (.laysFinal "java/lang/String" "java/lang/String" "coder" "B"))⟩) (Or.inl ⟨rfl, hnm⟩) f2 (Or.inl rfl) hB11 (t := .byte) (by decide +kernel) rfl (g := (mkF m 48 #[.val (.ref a), .val (.ref b), .val (.int (Int32.ofNat o)), .val (.int (Int32.ofNat len)), .val .null, .val (.ref s.heap.size)] [.int 0, .ref a])) rfl (rest := []) rfl (hb hbytes d48)
  have c14 : Steps p.tables e below (s₁.setTop (entryFrame m #[.ref a, .ref b, .int (Int32.ofNat o), .int (Int32.ofNat len), .null] 6)) (T13.setTop (mkF m 54 #[.val (.ref a), .val (.ref b), .val (.int (Int32.ofNat o)), .val (.int (Int32.ofNat len)), .val .null, .val (.ref s.heap.size)] [.ref s.heap.size, .ref a])) := (c12.trans (st13 _ (Steps.refl _))).trans (by
    refine XS.aloadN X13.here hexec rfl (hb hbytes d51) rfl rfl ?_
    refine XS.aload X13.here hexec rfl (hb hbytes d52) rfl rfl ?_
    exact Steps.refl _)
  obtain ⟨T15, X15, p15, bl15, sl15, st15⟩ := X13.finit hexec hown (wk W (.fieldLink "java/lang/String" 9 "java/lang/String" "value" "[B")) (Or.inr ⟨_, (wk W (.laysFinal "java/lang/String" "java/lang/String" "value" "[B"))⟩) (Or.inl ⟨rfl, hnm⟩) f1 (Or.inl rfl) bl13 (t := (.array .byte)) (by decide +kernel) rfl (g := (mkF m 54 #[.val (.ref a), .val (.ref b), .val (.int (Int32.ofNat o)), .val (.int (Int32.ofNat len)), .val .null, .val (.ref s.heap.size)] [.ref s.heap.size, .ref a])) rfl (rest := []) rfl (hb hbytes d54)
  have c16 : Steps p.tables e below (s₁.setTop (entryFrame m #[.ref a, .ref b, .int (Int32.ofNat o), .int (Int32.ofNat len), .null] 6)) (T15.setTop (mkF m 57 #[.val (.ref a), .val (.ref b), .val (.int (Int32.ofNat o)), .val (.int (Int32.ofNat len)), .val .null, .val (.ref s.heap.size)] [])) := c14.trans (st15 _ (Steps.refl _))
  have ap := apart (Or.inr ⟨_, (wk W (.laysFinal "java/lang/String" "java/lang/String" "value" "[B"))⟩) (Or.inr ⟨_, (wk W (.laysFinal "java/lang/String" "java/lang/String" "coder" "B"))⟩) f1 f2 (t₁ := .array .byte) (t₂ := .byte) (by decide +kernel) (by decide +kernel) (by decide)
  have al := X8.warmed.alike.symm.trans X15.warmed.alike
  have n7 : T11.heap[s.heap.size]? = some N := by rw [q11]; exact n1.1
  exact ⟨T15, none, _, _, _, X15, by simp, rfl, by omega, (fun _ => rfl), ⟨rfl, _, N, bl15, ((Same.refl D _).set _ (by simp)).set _ (by simp), sl15, (Cell.slots_setSlot_ne _ ap).trans sl13, n1.keep al (p15.other hne (p13.other hne n7)), n2, by rw [al.findClass]; exact n3, n4, n5, fun y c h1 h2 => p15.other h1 (p13.other h1 (by rw [q11]; exact n6 y c h2)), by rw [p15.2.2, p13.2.2, q11]; exact z8⟩, fun fs hl => c16.trans (X15.returnOut hexec hret (hb hbytes d57) hl)⟩
end New4
namespace New1
def yN : MethodName := ⟨"java/lang/String", "<init>", "([C)V"⟩
abbrev yB : ByteArray := jdk_42_method_3_code
theorem d0 : decode yB 0 = .ok (.aload_n 0, 1) := by decide +kernel
theorem d1 : decode yB 1 = .ok (.aload_n 1, 1) := by decide +kernel
theorem d2 : decode yB 2 = .ok (.iconst 0, 1) := by decide +kernel
theorem d3 : decode yB 3 = .ok (.aload_n 1, 1) := by decide +kernel
theorem d4 : decode yB 4 = .ok (.arraylength, 1) := by decide +kernel
theorem d5 : decode yB 5 = .ok (.aconst_null, 1) := by decide +kernel
theorem d6 : decode yB 6 = .ok (.invokespecial 27, 3) := by decide +kernel
theorem d9 : decode yB 9 = .ok (.return_, 1) := by decide +kernel
def site : List Cond := [New4.tab] ++ initW "java/lang/String" 27 New4.yN
def tab : Cond := tabOf yN yB 2 none site
def P (a : Addr) (D : Cell) (fV fC : Field) (b : Addr) (A : Cell) (z : Int32) (args : Array Value) (s : State) : Prop := args = #[.ref a, .ref b] ∧ Blank "java/lang/String" a D s ∧ Found "java/lang/String" "value" "[B" fV s ∧ Found "java/lang/String" "coder" "B" fC s ∧ Ch b A s ∧ StaticIs s "java/lang/String" "COMPACT_STRINGS" "Z" (.int z) ∧ ¬ z = 0 ∧ 0 < A.slots.size ∧ A.slots.size ≤ 536870912 ∧ ∀ i, i < A.slots.size → ¬ 255 < cv A i
def E (a : Addr) (D : Cell) (fV fC : Field) (A : Cell) (r : Option Value) (s u : State) : Prop := Got a D fV fC A 0 A.slots.size r s u
/-- new String(chars), not empty, no char above 255: a Latin-1 String of their low bytes -/
theorem law (l : Launch) (a : Addr) (D : Cell) (fV fC : Field) (b : Addr) (A : Cell) (z : Int32) : Law l yN 2 1 3 52 yB 2 none site (P a D fV fC b A z) (E a D fV fC A) [⟨a, fC.slot⟩, ⟨a, fV.slot⟩] 1 A.slots.size := by
  refine Law.of_walk (plainFor_of_name (by decide +kernel)) (by decide +kernel) (by decide +kernel) (by decide) (fun _ _ h => by rw [h.1]; rfl) (fun _ U U' hal hh h => ⟨h.1, h.2.1.mv hal hh, h.2.2.1.al hal, h.2.2.2.1.al hal, h.2.2.2.2.1.mv hal hh, h.2.2.2.2.2.1.there hal hh, h.2.2.2.2.2.2⟩) (fun r U U' V V' h1 hal h2 h => Got.mv r U U' V V' h1 hal h2 h) ?_
  intro p e s m args below meth c s₁ X0 hexec hbytes hml hret hlk hnm hown hh0 W hP
  obtain ⟨rfl, hB, f1, f2, hA, s1, hz, l0, l2, hp⟩ := hP
  have c1 : Steps p.tables e below (s₁.setTop (entryFrame m #[.ref a, .ref b] 2)) (s₁.setTop (mkF m 0 #[.val (.ref a), .val (.ref b)] [])) := entry rfl
  have c2 : Steps p.tables e below (s₁.setTop (entryFrame m #[.ref a, .ref b] 2)) (s₁.setTop (mkF m 6 #[.val (.ref a), .val (.ref b)] [.null, .int (Int32.ofNat A.slots.size), .int 0, .ref b, .ref a])) := c1.trans (by
    refine XS.aloadN X0.here hexec rfl (hb hbytes d0) rfl rfl ?_
    refine XS.aloadN X0.here hexec rfl (hb hbytes d1) rfl rfl ?_
    refine iconstV X0.here hexec rfl 0 (hb hbytes d2) (by decide) ?_
    refine XS.aloadN X0.here hexec rfl (hb hbytes d3) rfl rfl ?_
    refine X0.alen hexec (hA.1.mv X0.warmed.alike hh0) rfl rfl (hb hbytes d4) ?_
    refine XS.aconstNull X0.here hexec rfl (hb hbytes d5) ?_
    exact Steps.refl _)
  obtain ⟨v3, T3, X3, E3, g3⟩ := X0.callN hexec (New4.law l a D fV fC b A z 0 A.slots.size) rfl hown (wks W (initW "java/lang/String" 27 New4.yN)) (W New4.tab (by simp only [site, List.mem_cons, List.mem_append, true_or, or_true])) (W := 0) (Nat.le_of_ble_eq_true rfl) (Nat.le_of_ble_eq_true rfl) (Nat.le_refl _) (by show 0 + A.slots.size ≤ A.slots.size; omega) (g := (mkF m 6 #[.val (.ref a), .val (.ref b)] [.null, .int (Int32.ofNat A.slots.size), .int (Int32.ofNat 0), .ref b, .ref a])) rfl (by rw [hml]; rfl) c2 (argsL := [.ref b, .int (Int32.ofNat 0), .int (Int32.ofNat A.slots.size), .null]) (rest := []) rfl rfl (by show 2 * 0 + 0 ≤ _; decide) (hb hbytes d6) (⟨rfl, hB.mv X0.warmed.alike hh0, f1.al X0.warmed.alike, f2.al X0.warmed.alike, hA.mv X0.warmed.alike hh0, s1.there X0.warmed.alike hh0, hz, l0, by omega, l2, fun i hi => by rw [Nat.zero_add]; exact hp i hi⟩)
  have e0 := Got.mv _ s₁ s _ _ hh0.symm (Vm.Alike.refl _) rfl E3
  obtain rfl := e0.1
  have c4 : Steps p.tables e below (s₁.setTop (entryFrame m #[.ref a, .ref b] 2)) (T3.setTop (mkF m 9 #[.val (.ref a), .val (.ref b)] [])) := g3
  exact ⟨T3, none, _, _, _, X3, by simp, rfl, by omega, (fun _ => rfl), e0, fun fs hl => c4.trans (X3.returnOut hexec hret (hb hbytes d9) hl)⟩
theorem pays {l : Launch} {R : Room} {p : Program} {e : Env} {below : List Frame} {s : State} {sargs : Array Value} {len W : Nat} (a : Addr) (D : Cell) (fV fC : Field) (b : Addr) (A : Cell) (z : Int32) (htab : tab.before sargs s = true) (hfr : 4 ≤ R.frames) (hlo : W + 65 ≤ R.locals) :
    Back l R p e below s sargs yN len W (fun A₁ a₁ => A₁.cells + 1 ≤ R.cells ∧ A₁.slots + A.slots.size ≤ R.slots ∧ P a D fV fC b A z a₁ A₁.U) (fun A₁ _ v₁ B₁ => E a D fV fC A v₁ A₁.U B₁.U ∧ B₁.locs = A₁.locs ++ [⟨a, fC.slot⟩, ⟨a, fV.slot⟩] ∧ B₁.cells = A₁.cells + 1 ∧ B₁.slots = A₁.slots + A.slots.size) :=
  (law l a D fV fC b A z).pays htab hfr (by omega)
end New1
end StrChars
namespace StrChars.Road
open Jvm Sem ClassFile Op Lib Jvm.Stand Jvm.Free Jvm.Free.XT
open Jvm.Lib.Cold (StaticIs)
abbrev ST : String := "java/lang/String"
/-- every table word that New1's law asks, flat -/
abbrev words : List Jvm.Cond := [.code New1.yN New1.yB 2 none, .initialized ST, .methodLink ST 27 New4.yN, .instanceMethod New4.yN,
  .code New4.yN New4.yB 6 none, .fieldLink ST 38 ST "COMPACT_STRINGS" "Z", .laysFinal ST ST "value" "[B", .fieldLink ST 9 ST "value" "[B", .laysFinal ST ST "coder" "B", .fieldLink ST 15 ST "coder" "B",
  .methodLink ST 1 Lib.objectInit, .instanceMethod Lib.objectInit, .code Lib.objectInit ⟨#[0xb1]⟩ 1 none, .methodLink ST 177 Cmp3.yN, .static Cmp3.yN, .methodLink ST 47 CodL.yN, .static CodL.yN,
  .code Cmp3.yN Cmp3.yB 6 (some (.array .byte)), .initialized U16, .arrayClass .byte, .methodLink U16 115 Cmp5.yN, .static Cmp5.yN, .code Cmp5.yN Cmp5.yB 7 (some .int), .code CodL.yN CodL.yB 2 (some .byte)]
theorem tab_of {a : Array Value} {s : State} (h : ∀ w ∈ words, w.before a s = true) : New1.tab.before a s = true := by
  have h5 : Cmp5.tab.before a s = true := unparts (wk h (.code Cmp5.yN Cmp5.yB 7 (some .int))) (wks h (.initialized Cmp5.yN.cls :: Cmp5.site))
  have hc : CodL.tab.before a s = true := unparts (wk h (.code CodL.yN CodL.yB 2 (some .byte))) (wks h (.initialized CodL.yN.cls :: CodL.site))
  have q5 : ∀ w ∈ Cmp5.tab :: words, w.before a s = true := fun w hw => (List.mem_cons.mp hw).elim (fun e => e ▸ h5) (h w)
  have h3 : Cmp3.tab.before a s = true := unparts (wk q5 (.code Cmp3.yN Cmp3.yB 6 (some (.array .byte)))) (wks q5 (.initialized Cmp3.yN.cls :: Cmp3.site))
  have q3 : ∀ w ∈ Cmp3.tab :: CodL.tab :: words, w.before a s = true := fun w hw => (List.mem_cons.mp hw).elim (fun e => e ▸ h3) fun hw => (List.mem_cons.mp hw).elim (fun e => e ▸ hc) (h w)
  have h4 : New4.tab.before a s = true := unparts (wk q3 (.code New4.yN New4.yB 6 none)) (wks q3 (.initialized New4.yN.cls :: New4.site))
  have q4 : ∀ w ∈ New4.tab :: words, w.before a s = true := fun w hw => (List.mem_cons.mp hw).elim (fun e => e ▸ h4) (h w)
  exact unparts (wk q4 (.code New1.yN New1.yB 2 none)) (wks q4 (.initialized New1.yN.cls :: New1.site))
/-- the words ride from the start Z to the walk's own state -/
theorem moved {Z s : State} {a0 args : Array Value} (hZ : Z.Warmed39 s.vm) (hw : ∀ d ∈ words, d.before a0 Z = true) : ∀ d ∈ words, d.before args s = true := fun d hd => by
  have q := hw d hd
  have t : ∀ d ∈ words, d = .arrayClass .byte ∨ (d.onTables && d.keepsFace) = true := by decide +kernel
  rcases t d hd with rfl | t
  · exact RoadKit.mvA hZ q
  · exact RoadKit.mv hZ q t
/-- WHAT COMES BACK, over the tables of the start Z: h the heap at the call, h' behind it -/
def Q (Z : State) (x : Addr) (A : Cell) (h : Heap) (v : Option Value) (h' : Heap) (L : List Loc) : Prop := v = none ∧ (∀ y ∈ L, y.base = x) ∧ RoadKit.Keep h h' [x] ∧ h'.size = h.size + 1 ∧ RoadKit.Exa Z h' x ST ∧ RoadKit.Fld Z h' x ST "value" "[B" (.ref h.size) ∧ RoadKit.Fld Z h' x ST "coder" "B" (.int 0) ∧
  (∃ V : Cell, RoadKit.Arr Z h' h.size V .byte ∧ V.vm = .none ∧ Z.vm.findClass "[B" = some V.cls ∧ V.slots.size = A.slots.size ∧ ∀ j, j < A.slots.size → V.slots[j]? = some (.int (lo8 (cv A j)))) ∧
  ∀ (O n d : String) (w : Value), RoadKit.Fld Z h x O n d w → RoadKit.slotOf Z O n d ≠ RoadKit.slotOf Z ST "value" "[B" → RoadKit.slotOf Z O n d ≠ RoadKit.slotOf Z ST "coder" "B" → RoadKit.Fld Z h' x O n d w
/-- **new String(chars) AT A CALL, IN THE ROAD'S FORM**: for specialBack behind newO: x the fresh String, b the char[] with the cell A -/
theorem back {p : Program} {l : Launch} {e : Env} {R : Room} {s : State} {args : Array Value} {below : List Frame} {len W : Nat} {Z : State} {a0 : Array Value} {h : Heap} (hZ : Z.Warmed39 s.vm) (hw : ∀ d ∈ words, d.before a0 Z = true) {kI : Nat} (wi : (Jvm.Cond.instantiable ST kI).before a0 Z = true)
    {x b : Addr} {A : Cell} {z : Int32} {v0 c0 : Value} (E : RoadKit.Exa Z h x ST) (V : RoadKit.Fld Z h x ST "value" "[B" v0) (C : RoadKit.Fld Z h x ST "coder" "B" c0) (K : RoadKit.Arr Z h b A .char) (hty : Typed .char A) (S : RoadKit.Sta Z h ST "COMPACT_STRINGS" "Z" (.int z)) (hz : ¬ z = 0)
    (l0 : 0 < A.slots.size) (l2 : A.slots.size ≤ 536870912) (hp : ∀ i, i < A.slots.size → ¬ 255 < cv A i) (hfr : 4 ≤ R.frames) (hlo : W + 65 ≤ R.locals) :
    Back l R p e below s args New1.yN len W (fun P a => a = #[.ref x, .ref b] ∧ P.U.heap = h ∧ P.cells + 1 ≤ R.cells ∧ P.slots + A.slots.size ≤ R.slots)
      (fun P _ v B => ∃ L, Q Z x A h v B.U.heap L ∧ B.locs = P.locs ++ L ∧ B.cells = P.cells + 1 ∧ B.slots = P.slots + A.slots.size) := by
  intro m meth c P g ig mk a X hg hsize hdg hW hn hp'
  obtain ⟨rfl, rfl, r1, r2⟩ := hp'
  have al : Z.vm.Alike P.U.vm := hZ.alike.trans X.warmed.alike
  obtain ⟨D, cfV, kV, iV, fV, hD, gV, stV, knV, obV, asV, slV⟩ := id V
  obtain ⟨D', cfC, kC, iC, fC, hD', gC, stC, -, -, asC, slC⟩ := id C
  cases hD.symm.trans hD'
  obtain ⟨D2, kD, e1, e2, e3, e4, e5⟩ := id E
  cases hD.symm.trans e1
  obtain ⟨c2, k2, i1, i2, i3, -⟩ := Cond.instantiable_spec wi
  cases e2.symm.trans i1
  cases e3.symm.trans i2
  obtain ⟨kU, u1, u2⟩ := al.2.2 _ _ e3
  have hB : Blank ST x D P.U := ⟨hD, ⟨knV, fun q hq => by rw [hq] at obV; cases obV⟩, by rw [al.findClass]; exact e2, kU, u1, by rw [u2]; exact i3, by rw [u2]; exact e5 i3⟩
  have F1 : Found ST "value" "[B" fV P.U := ⟨SBG.found_only al ⟨cfV, kV, iV, gV⟩, stV⟩
  have F2 : Found ST "coder" "B" fC P.U := ⟨SBG.found_only al ⟨cfC, kC, iC, gC⟩, stC⟩
  have hA : Ch b A P.U := ⟨⟨K.1, State.isArrayOf_alike al K.2.1, K.2.2, by omega⟩, hty⟩
  have hS : StaticIs P.U ST "COMPACT_STRINGS" "Z" (.int z) := by
    obtain ⟨cfS, iS, kS, fS, st, cS, t1, t2, t3, t4, t5, t6, t7⟩ := S
    exact StaticIs.there (s := { Z with heap := P.U.heap }) ⟨cfS, iS, kS, fS, st, cS, t1, t2, t3, t4, t5, (fun q => by rw [q] at t6; cases t6), t7⟩ al rfl
  obtain ⟨v, B, X', ⟨⟨hv, E', V', q1, q2, q3, q4, q5, q6, q7, q8, q9, q10, q11⟩, hl, hc, hs⟩, st⟩ := New1.pays x D fV fC b A z (tab_of (moved hZ hw)) hfr hlo m meth c P g ig mk _ X hg hsize hdg hW hn ⟨r1, r2, rfl, hB, F1, F2, hA, hS, hz, l0, l2, hp⟩
  have al' : Z.vm.Alike B.U.vm := hZ.alike.trans X'.warmed.alike
  have hsz : E'.slots.size = D.slots.size := by
    obtain ⟨-, -, -, kB, w1, w2, w3⟩ := q1
    obtain ⟨kB', y1, y2⟩ := al'.2.2 _ _ e3
    rw [q2.2.1] at w1
    cases w1.symm.trans y1
    rw [w3, e5 i3, y2]
  refine ⟨v, B, X', ⟨_, ⟨hv, ?_, ⟨by omega, fun y cy hy hn' => q10 y cy (by simpa using hn') hy, fun y cy hy => ?_⟩, q11, ⟨E', _, q1.1, by rw [q2.2.1]; exact e2, by rw [q2.2.1]; exact e3, by rw [q2.1]; exact obV, fun _ => by rw [hsz]; exact e5 i3⟩,
    ⟨E', cfV, kV, iV, fV, q1.1, gV, stV, by rw [q2.1]; exact knV, by rw [q2.1]; exact obV, by rw [q2.2.1]; exact asV, q3⟩, ⟨E', cfC, kC, iC, fC, q1.1, gC, stC, by rw [q2.1]; exact knV, by rw [q2.1]; exact obV, by rw [q2.2.1]; exact asC, q4⟩,
    ⟨V', ⟨q5.1, State.isArrayOf_alike al'.symm q5.2.1, q5.2.2.1⟩, q6, by rw [← al'.findClass]; exact q7, q8, fun j hj => by have := q9 j hj; rwa [Nat.zero_add] at this⟩, fun O n d w F n1 n2 => ?_⟩, hl, hc, hs⟩, st⟩
  · intro y hy
    simp only [List.mem_cons, List.not_mem_nil, or_false] at hy
    rcases hy with rfl | rfl <;> rfl
  · by_cases q : y = x
    · subst q
      cases hD.symm.trans hy
      exact ⟨E', q1.1, q2.2.1, q2.1, hsz⟩
    · exact ⟨cy, q10 y cy q hy, rfl, rfl, rfl⟩
  · obtain ⟨D3, cf, k, i, f, g1, g2, g3, g4, g5, g6, g7⟩ := F
    cases hD.symm.trans g1
    simp only [RoadKit.slotOf, g2, gV, gC, Option.map_some, Option.getD_some] at n1 n2
    exact ⟨E', cf, k, i, f, q1.1, g2, g3, by rw [q2.1]; exact g4, by rw [q2.1]; exact g5, by rw [q2.2.1]; exact g6, by rw [q2.2.2 f.slot (by simp [n1, n2])]; exact g7⟩
end StrChars.Road
namespace StrChars.Road
open Jvm Sem ClassFile Op Lib Jvm.Stand Jvm.Free Jvm.Free.XT
/-- WHAT COMES BACK, the byte[] as a list of values -/
def QA (Z : State) (x : Addr) (zn : Int32) (cs : List Int32) (h : Heap) (v : Option Value) (h' : Heap) (L : List Loc) : Prop := v = none ∧ (∀ y ∈ L, y.base = x) ∧ RoadKit.Keep h h' [x] ∧ h'.size = h.size + 1 ∧ RoadKit.Exa Z h' x ST ∧ RoadKit.Fld Z h' x ST "value" "[B" (.ref h.size) ∧ RoadKit.Fld Z h' x ST "coder" "B" (.int 0) ∧
  (∃ kb, Z.vm.findClass "[B" = some kb ∧ RoadKit.Arv Z h' h.size kb .byte zn (cs.map fun c => .int (lo8 c)) (.int 0)) ∧
  ∀ (O n d : String) (w : Value), RoadKit.Fld Z h x O n d w → RoadKit.slotOf Z O n d ≠ RoadKit.slotOf Z ST "value" "[B" → RoadKit.slotOf Z O n d ≠ RoadKit.slotOf Z ST "coder" "B" → RoadKit.Fld Z h' x O n d w
/-- **new String(chars) AT A CALL, THE ARRAYS AS LISTS**: the char[] at b holds cs, not empty, no char above 255 -/
theorem backArv {p : Program} {l : Launch} {e : Env} {R : Room} {s : State} {args : Array Value} {below : List Frame} {len W : Nat} {Z : State} {a0 : Array Value} {h : Heap} (hZ : Z.Warmed39 s.vm) (hw : ∀ d ∈ words, d.before a0 Z = true) {kI : Nat} (wi : (Jvm.Cond.instantiable ST kI).before a0 Z = true)
    {x b : Addr} {k : ClassId} {zn z : Int32} {cs : List Int32} {dv v0 c0 : Value} (E : RoadKit.Exa Z h x ST) (V : RoadKit.Fld Z h x ST "value" "[B" v0) (C : RoadKit.Fld Z h x ST "coder" "B" c0) (K : RoadKit.Arv Z h b k .char zn (cs.map Value.int) dv) (S : RoadKit.Sta Z h ST "COMPACT_STRINGS" "Z" (.int z)) (hz : ¬ z = 0)
    (hlen : zn.toNatClampNeg = cs.length) (h0 : 0 < cs.length) (hbig : cs.length ≤ 536870912) (hall : ∀ c ∈ cs, ¬ 255 < c) (hfr : 4 ≤ R.frames) (hlo : W + 65 ≤ R.locals) :
    Back l R p e below s args New1.yN len W (fun P a => a = #[.ref x, .ref b] ∧ P.U.heap = h ∧ P.cells + 1 ≤ R.cells ∧ P.slots + cs.length ≤ R.slots)
      (fun P _ v B => ∃ L, QA Z x zn cs h v B.U.heap L ∧ B.locs = P.locs ++ L ∧ B.cells = P.cells + 1 ∧ B.slots = P.slots + cs.length) := by
  obtain ⟨A, K1, K2, K3, K4, K5, K6⟩ := K
  have e : A.slots.size = cs.length := K3.trans hlen
  have hat : ∀ (i : Nat) (hi : i < cs.length), A.slots[i]? = some (.int cs[i]) := fun i hi => by rw [K5 i (by omega)]; simp [List.getD_eq_getElem?_getD, hi]
  have hcv : ∀ (i : Nat) (hi : i < cs.length), cv A i = cs[i] := fun i hi => by unfold cv; rw [hat i hi]
  have hty : Typed .char A := fun i v hv => by
    have hi : i < A.slots.size := (Array.getElem?_eq_some_iff.mp hv).1
    have q := K5 i hi
    rw [hv] at q
    rw [Option.some.inj q]
    exact K6 i hi
  refine Back.mono (back hZ hw wi E V C K1 hty S hz (by omega) (by omega) (fun i hi => by rw [hcv i (by omega)]; exact hall _ (List.getElem_mem _)) hfr hlo) (fun P a hp => ⟨hp.1, hp.2.1, hp.2.2.1, by rw [e]; exact hp.2.2.2⟩) (fun P a v B hp hq => ?_)
  obtain ⟨L, ⟨q1, q2, q3, q4, q5, q6, q7, ⟨V', v1, v2, v3, v4, v5⟩, q9⟩, hl, hc, hs⟩ := hq
  refine ⟨L, ⟨q1, q2, q3, q4, q5, q6, q7, ⟨V'.cls, v3, V', v1, rfl, by rw [v4, e, hlen], K4, fun i hi => ?_, fun i hi => ?_⟩, q9⟩, hl, hc, by rw [hs, e]⟩
  · have hi' : i < cs.length := by omega
    rw [v5 i (by omega), hcv i hi']; simp [List.getD_eq_getElem?_getD, hi']
  · have hi' : i < cs.length := by omega
    simp only [List.getD_eq_getElem?_getD, List.getElem?_map, List.getElem?_eq_getElem hi', Option.map_some, Option.getD_some]
    exact fits_lo8 _
end StrChars.Road
namespace StrChars.Road
open Jvm Sem ClassFile Op Lib Jvm.Stand Jvm.Free Jvm.Free.XT
/-- WHAT COMES BACK, in the writer's own shape -/
def QV (Z : State) (x : Addr) (N : Int32) (bs : List Int32) (h : Heap) (n0 : Nat) (v : Option Value) (h' : Heap) (L : List Loc) : Prop := v = none ∧ RoadKit.Fr n0 L ∧ RoadKit.Keep h h' [x] ∧ RoadKit.Exa Z h' x ST ∧ RoadKit.Fld Z h' x ST "coder" "B" (.int 0) ∧
  ∃ (t : Addr) (kb : ClassId), n0 ≤ t ∧ h.size ≤ t ∧ ¬ t = x ∧ RoadKit.Fld Z h' x ST "value" "[B" (.ref t) ∧ RoadKit.Arv Z h' t kb .byte N (bs.map Value.int) (.int 0)
/-- **new String(chars) AT A CALL, FOR THE WRITER**: a char[] of n known ints, each 0 to 255 -/
theorem backV {p : Program} {l : Launch} {e : Env} {R : Room} {s : State} {args : Array Value} {below : List Frame} {len W : Nat} {Z : State} {a0 : Array Value} {h : Heap} (hZ : Z.Warmed39 s.vm) (hw : ∀ d ∈ words, d.before a0 Z = true) {kI : Nat} (wi : (Jvm.Cond.instantiable ST kI).before a0 Z = true)
    {x b : Addr} {kC : ClassId} {cs bs : List Int32} {d v0 c0 : Value} {z N : Int32} {n n0 : Nat} (hx0 : n0 ≤ x) (hh0 : n0 ≤ h.size) (E : RoadKit.Exa Z h x ST) (V : RoadKit.Fld Z h x ST "value" "[B" v0) (C : RoadKit.Fld Z h x ST "coder" "B" c0) (K : RoadKit.Arv Z h b kC .char N (cs.map Value.int) d) (S : RoadKit.Sta Z h ST "COMPACT_STRINGS" "Z" (.int z)) (hz : ¬ z = 0)
    (hn : cs.length = n) (hN : N = Int32.ofNat n) (l0 : 0 < n) (l2 : n ≤ 4000) (hp : ∀ c ∈ cs, ¬ c < 0 ∧ ¬ (255 : Int32) < c) (hb : bs = cs.map (fun c => c.toInt8.toInt32)) (hfr : 4 ≤ R.frames) (hlo : W + 65 ≤ R.locals) :
    Back l R p e below s args (⟨"java/lang/String", "<init>", "([C)V"⟩ : MethodName) len W (fun P a => a = #[.ref x, .ref b] ∧ P.U.heap = h ∧ P.cells + 1 ≤ R.cells ∧ P.slots + n ≤ R.slots)
      (fun P _ v B => ∃ L, QV Z x N bs h n0 v B.U.heap L ∧ B.locs = P.locs ++ L ∧ B.cells = P.cells + 1 ∧ B.slots = P.slots + n) := by
  subst hn hN hb
  refine Back.mono (backArv hZ hw wi E V C K S hz (n32 (by omega)) l0 (by omega) (fun c hc => (hp c hc).2) hfr hlo) (fun P a hp => hp) (fun P a v B hp hq => ?_)
  obtain ⟨L, ⟨q1, q2, q3, q4, q5, q6, q7, ⟨kb, v1, v2⟩, q9⟩, hl, hc, hs⟩ := hq
  exact ⟨L, ⟨q1, fun y hy => by rw [q2 y hy]; exact hx0, q3, q5, q7, h.size, kb, hh0, Nat.le_refl _, Nat.ne_of_gt E.lt, q6, by rw [List.map_map]; exact v2⟩, hl, hc, hs⟩
end StrChars.Road
namespace StrChars
open Jvm Sem ClassFile Op Lib Jvm.Stand Jvm.Free.XT Jvm.Free.ALB Jvm.Free.JM Jvm.Free
open Jvm.Lib.Cold (StaticIs)
def hi8 (x : Int32) : Int32 := lo8 (x >>> ((8 : Int32) &&& 31))
theorem shr0 (c : Int32) : c >>> ((0 : Int32) &&& 31) = c := by
  have e : ((0 : Int32) &&& 31) = 0 := by decide
  rw [e]
  apply Int32.toBitVec_inj.mp
  rw [Int32.toBitVec_shiftRight]
  have e1 : ((0 : Int32).toBitVec.smod 32) = 0#32 := by decide
  rw [e1, BitVec.sshiftRight_eq']
  exact BitVec.sshiftRight_zero
end StrChars
namespace StrChars
open Jvm Sem ClassFile Op Lib Jvm.Stand Jvm.Free.XT Jvm.Free.ALB Jvm.Free.JM Jvm.Free
open Jvm.Lib.Cold (StaticIs)
theorem shr1 {n : Nat} (h : 2 * n < 2 ^ 31) : Int32.ofNat (2 * n) >>> ((1 : Int32) &&& 31) = Int32.ofNat n := by
  have e : ((1 : Int32) &&& 31) = 1 := by decide
  rw [e]
  apply Int32.toBitVec_inj.mp
  rw [Int32.toBitVec_shiftRight]
  have e1 : ((1 : Int32).toBitVec.smod 32) = 1#32 := by decide
  have hm : (BitVec.ofNat 32 (2 * n)).toNat = 2 * n := by rw [BitVec.toNat_ofNat, Nat.mod_eq_of_lt (by omega)]
  rw [e1, BitVec.sshiftRight_eq']
  apply BitVec.eq_of_toNat_eq
  show ((BitVec.ofNat 32 (2 * n)).sshiftRight 1).toNat = (BitVec.ofNat 32 n).toNat
  rw [BitVec.toNat_sshiftRight_of_msb_false (by rw [BitVec.msb_eq_false_iff_two_mul_lt, hm]; omega), hm, BitVec.toNat_ofNat, Nat.shiftRight_eq_div_pow]
  omega
/-- the array's cell V codes the n chars f 0 .. f (n - 1) by the coder cd, as the JDK does: coder 1 just where some char is above 255 -/
def Cod (cd : Int32) (n : Nat) (f : Nat → Int32) (V : Cell) : Prop := (cd = 0 ∧ V.slots.size = n ∧ ∀ j, j < n → V.slots[j]? = some (.int (lo8 (f j))) ∧ ¬ 255 < f j) ∨ (cd = 1 ∧ V.slots.size = 2 * n ∧ (∀ j, j < n → V.slots[2 * j]? = some (.int (lo8 (f j))) ∧ V.slots[2 * j + 1]? = some (.int (hi8 (f j)))) ∧ ∃ j, j < n ∧ 255 < f j)
theorem Cod.cd {cd : Int32} {n : Nat} {f : Nat → Int32} {V : Cell} (h : Cod cd n f V) : cd = 0 ∨ cd = 1 := h.imp (fun q => q.1) fun q => q.1
theorem Cod.len {cd : Int32} {n : Nat} {f : Nat → Int32} {V : Cell} (h : Cod cd n f V) (hs : V.slots.size < 2 ^ 31) : Int32.ofNat V.slots.size >>> (cd &&& 31) = Int32.ofNat n := by
  rcases h with ⟨rfl, h, -⟩ | ⟨rfl, h, -⟩
  · rw [shr0, h]
  · rw [h, shr1 (by omega)]
/-- **x is a String of the n chars f 0 .. f (n - 1)**, Latin-1 or UTF-16; its array at t has the cell V -/
def Txt (x t : Addr) (V : Cell) (cd : Int32) (n : Nat) (f : Nat → Int32) (U : State) : Prop := Exact "java/lang/String" x U ∧ Has x "java/lang/String" "value" "[B" (.ref t) U ∧ Has x "java/lang/String" "coder" "B" (.int cd) U ∧ XT.Arr .byte t V U ∧ Cod cd n f V ∧ ∀ j, j < n → ¬ f j < 0 ∧ ¬ 65535 < f j
theorem Txt.mv {x t : Addr} {V : Cell} {cd : Int32} {n : Nat} {f : Nat → Int32} {U U' : State} (h : Txt x t V cd n f U) (hal : U.vm.Alike U'.vm) (hh : U'.heap = U.heap) : Txt x t V cd n f U' := ⟨h.1.mv hal hh, h.2.1.mv hal hh, h.2.2.1.mv hal hh, h.2.2.2.1.mv hal hh, h.2.2.2.2⟩
namespace Cdr
def yN : MethodName := ⟨"java/lang/String", "coder", "()B"⟩
abbrev yB : ByteArray := jdk_42_method_152_code
theorem d0 : decode yB 0 = .ok (.getstatic 38, 3) := by decide +kernel
theorem d3 : decode yB 3 = .ok (.ifCond (.eq) 10, 3) := by decide +kernel
theorem d6 : decode yB 6 = .ok (.aload_n 0, 1) := by decide +kernel
theorem d7 : decode yB 7 = .ok (.getfield 15, 3) := by decide +kernel
theorem d10 : decode yB 10 = .ok (.goto 4, 3) := by decide +kernel
theorem d14 : decode yB 14 = .ok (.ireturn, 1) := by decide +kernel
def site : List Cond := [.fieldLink "java/lang/String" 38 "java/lang/String" "COMPACT_STRINGS" "Z", .fieldLink "java/lang/String" 15 "java/lang/String" "coder" "B"]
def tab : Cond := tabOf yN yB 1 (some .byte) site
def P (x : Addr) (cd z : Int32) (args : Array Value) (s : State) : Prop := args = #[.ref x] ∧ Has x "java/lang/String" "coder" "B" (.int cd) s ∧ (cd = 0 ∨ cd = 1) ∧ StaticIs s "java/lang/String" "COMPACT_STRINGS" "Z" (.int z) ∧ ¬ z = 0
def E (cd : Int32) (r : Option Value) (s u : State) : Prop := XT.PureE (some (.int cd)) r s u
theorem law (l : Launch) (x : Addr) (cd z : Int32) : Law l yN 1 0 0 0 yB 1 (some .byte) site (P x cd z) (E cd) [] 0 0 := by
  refine Law.of_walk (plainFor_of_name (by decide +kernel)) (by decide +kernel) (by decide +kernel) (by decide) (fun _ _ h => by rw [h.1]; rfl) (fun _ U U' hal hh h => ⟨h.1, h.2.1.mv hal hh, h.2.2.1, h.2.2.2.1.there hal hh, h.2.2.2.2⟩) (fun r U U' V V' h1 hal h2 h => XT.PureE.mv r U U' V V' h1 hal h2 h) ?_
  intro p e s m args below meth c s₁ X0 hexec hbytes hml hret hlk hnm hown hh0 W hP
  obtain ⟨rfl, hx, hc, s1, hz⟩ := hP
  have c1 : Steps p.tables e below (s₁.setTop (entryFrame m #[.ref x] 1)) (s₁.setTop (mkF m 0 #[.val (.ref x)] [])) := entry rfl
  obtain ⟨T2, X2, q2, st2⟩ := X0.sget hexec hown (wk W (.fieldLink "java/lang/String" 38 "java/lang/String" "COMPACT_STRINGS" "Z")) s1 (fun _ _ h => by rw [hh0]; exact h) (g := (mkF m 0 #[.val (.ref x)] [])) rfl (hb hbytes d0)
  have hh2 := q2.trans hh0
  have c3 : Steps p.tables e below (s₁.setTop (entryFrame m #[.ref x] 1)) (T2.setTop (mkF m 7 #[.val (.ref x)] [.ref x])) := (c1.trans (st2 _ (Steps.refl _))).trans (by
    refine XS.ifNo X2.here hexec rfl (hb hbytes d3) rfl (i0_eq_f hz) ?_
    refine XS.aloadN X2.here hexec rfl (hb hbytes d6) rfl rfl ?_
    exact Steps.refl _)
  obtain ⟨T4, X4, q4, st4⟩ := X2.hget hexec hown (wk W (.fieldLink "java/lang/String" 15 "java/lang/String" "coder" "B")) (hx.mv X2.warmed.alike hh2) (g := (mkF m 7 #[.val (.ref x)] [.ref x])) rfl (rest := []) rfl (hb hbytes d7)
  have c5 : Steps p.tables e below (s₁.setTop (entryFrame m #[.ref x] 1)) (T4.setTop (mkF m 14 #[.val (.ref x)] [.int cd])) := (c3.trans (st4 _ (Steps.refl _))).trans (by
    refine XS.goto X4.here hexec rfl (pc0 := 10) rfl (hb hbytes d10) (by decide) rfl ?_
    exact Steps.refl _)
  exact ⟨T4, some (.int cd), _, _, _, X4, rfl, rfl, rfl, (fun h => by cases h), ⟨rfl, q4.trans hh2⟩, fun fs hl => c5.trans (X4.ireturnOut hexec hret (by rcases hc with rfl | rfl <;> rfl) (Or.inr (Or.inr (Or.inl rfl))) (hb hbytes d14) hl)⟩
end Cdr
namespace Len
def yN : MethodName := ⟨"java/lang/String", "length", "()I"⟩
abbrev yB : ByteArray := jdk_42_method_54_code
theorem d0 : decode yB 0 = .ok (.aload_n 0, 1) := by decide +kernel
theorem d1 : decode yB 1 = .ok (.getfield 9, 3) := by decide +kernel
theorem d4 : decode yB 4 = .ok (.arraylength, 1) := by decide +kernel
theorem d5 : decode yB 5 = .ok (.aload_n 0, 1) := by decide +kernel
theorem d6 : decode yB 6 = .ok (.invokevirtual 335, 3) := by decide +kernel
theorem d9 : decode yB 9 = .ok (.ishr, 1) := by decide +kernel
theorem d10 : decode yB 10 = .ok (.ireturn, 1) := by decide +kernel
def site : List Cond := [.fieldLink "java/lang/String" 9 "java/lang/String" "value" "[B", Cdr.tab] ++ virtW "java/lang/String" 335 "java/lang/String" Cdr.yN Cdr.yN
def tab : Cond := tabOf yN yB 1 (some .int) site
def P (x t : Addr) (V : Cell) (cd : Int32) (n : Nat) (f : Nat → Int32) (z : Int32) (args : Array Value) (s : State) : Prop := args = #[.ref x] ∧ Txt x t V cd n f s ∧ StaticIs s "java/lang/String" "COMPACT_STRINGS" "Z" (.int z) ∧ ¬ z = 0
def E (n : Nat) (r : Option Value) (s u : State) : Prop := XT.PureE (some (.int (Int32.ofNat n))) r s u
/-- length() of a String of n chars, in either coding -/
theorem law (l : Launch) (x t : Addr) (V : Cell) (cd : Int32) (n : Nat) (f : Nat → Int32) (z : Int32) : Law l yN 1 0 1 13 yB 1 (some .int) site (P x t V cd n f z) (E n) [] 0 0 := by
  refine Law.of_walk (plainFor_of_name (by decide +kernel)) (by decide +kernel) (by decide +kernel) (by decide) (fun _ _ h => by rw [h.1]; rfl) (fun _ U U' hal hh h => ⟨h.1, h.2.1.mv hal hh, h.2.2.1.there hal hh, h.2.2.2⟩) (fun r U U' V V' h1 hal h2 h => XT.PureE.mv r U U' V V' h1 hal h2 h) ?_
  intro p e s m args below meth c s₁ X0 hexec hbytes hml hret hlk hnm hown hh0 W hP
  obtain ⟨rfl, hx, s1, hz⟩ := hP
  have v31 := hx.2.2.2.1.2.2.2
  have c1 : Steps p.tables e below (s₁.setTop (entryFrame m #[.ref x] 1)) (s₁.setTop (mkF m 1 #[.val (.ref x)] [.ref x])) := Steps.trans (entry rfl) (by
    show Steps p.tables e below (s₁.setTop (mkF m 0 #[.val (.ref x)] [])) _
    refine XS.aloadN X0.here hexec rfl (hb hbytes d0) rfl rfl ?_
    exact Steps.refl _)
  obtain ⟨T2, X2, q2, st2⟩ := X0.hget hexec hown (wk W (.fieldLink "java/lang/String" 9 "java/lang/String" "value" "[B")) (hx.mv X0.warmed.alike hh0).2.1 (g := (mkF m 1 #[.val (.ref x)] [.ref x])) rfl (rest := []) rfl (hb hbytes d1)
  have hh2 := q2.trans hh0
  have hx2 := hx.mv X2.warmed.alike hh2
  have c3 : Steps p.tables e below (s₁.setTop (entryFrame m #[.ref x] 1)) (T2.setTop (mkF m 6 #[.val (.ref x)] [.ref x, .int (Int32.ofNat V.slots.size)])) := (c1.trans (st2 _ (Steps.refl _))).trans (by
    refine X2.alen hexec hx2.2.2.2.1 rfl rfl (hb hbytes d4) ?_
    refine XS.aloadN X2.here hexec rfl (hb hbytes d5) rfl rfl ?_
    exact Steps.refl _)
  obtain ⟨v4, T4, X4, E4, g4⟩ := X2.callV hexec (Cdr.law l x cd z) hown (wks W (virtW "java/lang/String" 335 "java/lang/String" Cdr.yN Cdr.yN)) rfl (by decide) (wk W Cdr.tab) (W := 1) (Nat.le_of_ble_eq_true rfl) (Nat.le_of_ble_eq_true rfl) (Nat.le_refl _) (Nat.le_refl _) (hx2.1.fc X2.warmed.alike) hx2.1.is (g := (mkF m 6 #[.val (.ref x)] [.ref x, .int (Int32.ofNat V.slots.size)])) rfl (by rw [hml]; rfl) c3 (argsL := []) (rest := [.int (Int32.ofNat V.slots.size)]) rfl rfl (by show 2 * 0 + (1 + 0) ≤ _; decide) (hb hbytes d6) (⟨rfl, hx2.2.2.1, hx.2.2.2.2.1.cd, s1.there X2.warmed.alike hh2, hz⟩)
  obtain ⟨rfl, q4⟩ := E4
  have c5 : Steps p.tables e below (s₁.setTop (entryFrame m #[.ref x] 1)) (T4.setTop (mkF m 10 #[.val (.ref x)] [.int (Int32.ofNat V.slots.size >>> (cd &&& 31))])) := Steps.trans g4 (by
    refine ishr X4.here hexec rfl (hb hbytes d9) rfl ?_
    exact Steps.refl _)
  rw [hx.2.2.2.2.1.len v31] at c5
  exact ⟨T4, some (.int (Int32.ofNat n)), _, _, _, X4, rfl, rfl, rfl, (fun h => by cases h), ⟨rfl, q4.trans hh2⟩, fun fs hl => c5.trans (X4.ireturnOut hexec hret rfl (Or.inl rfl) (hb hbytes d10) hl)⟩
theorem pays {l : Launch} {R : Room} {p : Program} {e : Env} {below : List Frame} {s : State} {sargs : Array Value} {len W : Nat} (x t : Addr) (V : Cell) (cd : Int32) (n : Nat) (f : Nat → Int32) (z : Int32) (htab : tab.before sargs s = true) (hfr : 2 ≤ R.frames) (hlo : W + 25 ≤ R.locals) :
    Back l R p e below s sargs yN len W (fun A₁ a₁ => A₁.cells + 0 ≤ R.cells ∧ A₁.slots + 0 ≤ R.slots ∧ P x t V cd n f z a₁ A₁.U) (fun A₁ _ v₁ B₁ => E n v₁ A₁.U B₁.U ∧ B₁.locs = A₁.locs ++ [] ∧ B₁.cells = A₁.cells + 0 ∧ B₁.slots = A₁.slots + 0) :=
  (law l x t V cd n f z).pays htab hfr (by omega)
end Len
end StrChars
namespace StrChars.Road
open Jvm Sem ClassFile Op Lib Jvm.Stand Jvm.Free Jvm.Free.XT
open Jvm.Lib.Cold (StaticIs)
theorem consq {a : Array Value} {s : State} {c : Jvm.Cond} {L : List Jvm.Cond} (h0 : c.before a s = true) (h : ∀ w ∈ L, w.before a s = true) : ∀ w ∈ c :: L, w.before a s = true := fun w hw => (List.mem_cons.mp hw).elim (fun e => e ▸ h0) (h w)
/-- the words of String.length(), either coding -/
abbrev wordsLen : List Jvm.Cond := [.code Len.yN Len.yB 1 (some .int), .initialized ST, .fieldLink ST 9 ST "value" "[B", .fieldLink ST 38 ST "COMPACT_STRINGS" "Z", .fieldLink ST 15 ST "coder" "B", .code Cdr.yN Cdr.yB 1 (some .byte), .methodLink ST 335 Cdr.yN, .declares Cdr.yN, .selects ST Cdr.yN Cdr.yN, .instanceMethod Cdr.yN]
theorem tabLen_of {a : Array Value} {s : State} (h : ∀ w ∈ wordsLen, w.before a s = true) : Len.tab.before a s = true := by
  have hc : Cdr.tab.before a s = true := unparts (wk h (.code Cdr.yN Cdr.yB 1 (some .byte))) (wks h (.initialized Cdr.yN.cls :: Cdr.site))
  have q := consq hc h
  exact unparts (wk q (.code Len.yN Len.yB 1 (some .int))) (wks q (.initialized Len.yN.cls :: Len.site))
theorem movedLen {Z s : State} {a0 args : Array Value} (hZ : Z.Warmed39 s.vm) (hw : ∀ d ∈ wordsLen, d.before a0 Z = true) : ∀ d ∈ wordsLen, d.before args s = true := fun d hd => by
  have q := hw d hd
  have t : ∀ d ∈ wordsLen, d = .arrayClass .byte ∨ (d.onTables && d.keepsFace) = true := by decide +kernel
  rcases t d hd with rfl | t
  · exact RoadKit.mvA hZ q
  · exact RoadKit.mv hZ q t
/-- the bytes of the chars cs, low before high -/
def wideBytes : List Int32 → List Value
  | [] => []
  | c :: cs => .int (lo8 c) :: .int (hi8 c) :: wideBytes cs
theorem wide_lo (d : Value) : ∀ (cs : List Int32) (j : Nat), j < cs.length → (wideBytes cs).getD (2 * j) d = .int (lo8 (cs.getD j 0))
  | [], j, h => absurd h (Nat.not_lt_zero j)
  | c :: cs, 0, _ => rfl
  | c :: cs, j + 1, h => by
    have q := wide_lo d cs j (by simpa using h)
    rw [show 2 * (j + 1) = 2 * j + 1 + 1 from by omega]
    simpa [wideBytes] using q
theorem wide_hi (d : Value) : ∀ (cs : List Int32) (j : Nat), j < cs.length → (wideBytes cs).getD (2 * j + 1) d = .int (hi8 (cs.getD j 0))
  | [], j, h => absurd h (Nat.not_lt_zero j)
  | c :: cs, 0, _ => rfl
  | c :: cs, j + 1, h => by
    have q := wide_hi d cs j (by simpa using h)
    rw [show 2 * (j + 1) + 1 = 2 * j + 1 + 1 + 1 from by omega]
    simpa [wideBytes] using q
theorem low_at (d : Value) (cs : List Int32) (j : Nat) (h : j < cs.length) : (cs.map fun c => Value.int (lo8 c)).getD j d = .int (lo8 (cs.getD j 0)) := by
  simp [List.getD_eq_getElem?_getD, h]
/-- an array of N2 bytes vs codes the chars cs by the coder cd -/
def CodA (cs : List Int32) (cd N2 : Int32) (vs : List Value) : Prop := (cd = 0 ∧ N2 = Int32.ofNat cs.length ∧ vs = (cs.map fun c => Value.int (lo8 c)) ∧ ∀ c ∈ cs, ¬ 255 < c) ∨ (cd = 1 ∧ N2 = Int32.ofNat (2 * cs.length) ∧ vs = wideBytes cs ∧ ∃ c ∈ cs, 255 < c)
theorem CodA.cod {cs : List Int32} {cd N2 : Int32} {vs : List Value} {V : Cell} (h : CodA cs cd N2 vs) (hn : 2 * cs.length < 2 ^ 31) (hs : V.slots.size = N2.toNatClampNeg) (hv : RoadKit.Has V vs (.int 0)) : Cod cd cs.length (fun j => cs.getD j 0) V := by
  rcases h with ⟨rfl, rfl, rfl, h⟩ | ⟨rfl, rfl, rfl, c, hc, hw⟩
  · rw [n32 (by omega)] at hs
    exact Or.inl ⟨rfl, hs, fun j hj => ⟨by rw [hv j (by omega), low_at _ _ _ hj], by
      have e : cs.getD j 0 = cs[j] := by simp [List.getD_eq_getElem?_getD, hj]
      show ¬ 255 < cs.getD j 0
      rw [e]; exact h _ (List.getElem_mem _)⟩⟩
  · rw [n32 (by omega)] at hs
    obtain ⟨j, hj, rfl⟩ := List.getElem_of_mem hc
    exact Or.inr ⟨rfl, hs, fun j hj => ⟨by rw [hv _ (by omega), wide_lo _ _ _ hj], by rw [hv _ (by omega), wide_hi _ _ _ hj]⟩, j, hj, by
      have e : cs.getD j 0 = cs[j] := by simp [List.getD_eq_getElem?_getD, hj]
      show 255 < cs.getD j 0
      rw [e]; exact hw⟩
/-- an object of exactly java/lang/String, its two fields found: as the laws ask it -/
theorem strObj {Z U : State} {a0 : Array Value} {kI : Nat} (wi : (Jvm.Cond.instantiable ST kI).before a0 Z = true) (al : Z.vm.Alike U.vm) {x : Addr} {v0 c0 : Value} (E : RoadKit.Exa Z U.heap x ST) (V : RoadKit.Fld Z U.heap x ST "value" "[B" v0) (C : RoadKit.Fld Z U.heap x ST "coder" "B" c0) :
    ∃ (D : Cell) (fV fC : Field), Blank ST x D U ∧ Found ST "value" "[B" fV U ∧ Found ST "coder" "B" fC U ∧ D.slots[fV.slot]? = some v0 ∧ D.slots[fC.slot]? = some c0 ∧ RoadKit.slotOf Z ST "value" "[B" = fV.slot ∧ RoadKit.slotOf Z ST "coder" "B" = fC.slot := by
  obtain ⟨D, cfV, kV, iV, fV, hD, gV, stV, knV, obV, asV, slV⟩ := V
  obtain ⟨D', cfC, kC, iC, fC, hD', gC, stC, -, -, asC, slC⟩ := C
  cases hD.symm.trans hD'
  obtain ⟨D2, kD, e1, e2, e3, e4, e5⟩ := E
  cases hD.symm.trans e1
  obtain ⟨c2, k2, i1, i2, i3, -⟩ := Cond.instantiable_spec wi
  cases e2.symm.trans i1
  cases e3.symm.trans i2
  obtain ⟨kU, u1, u2⟩ := al.2.2 _ _ e3
  exact ⟨D, fV, fC, ⟨hD, ⟨knV, fun q hq => by rw [hq] at obV; cases obV⟩, by rw [al.findClass]; exact e2, kU, u1, by rw [u2]; exact i3, by rw [u2]; exact e5 i3⟩, ⟨SBG.found_only al ⟨cfV, kV, iV, gV⟩, stV⟩, ⟨SBG.found_only al ⟨cfC, kC, iC, gC⟩, stC⟩, slV, slC, by simp [RoadKit.slotOf, gV], by simp [RoadKit.slotOf, gC]⟩
theorem sta_is {Z U : State} (al : Z.vm.Alike U.vm) {C n d : String} {v : Value} (S : RoadKit.Sta Z U.heap C n d v) : StaticIs U C n d v := by
  obtain ⟨cfS, iS, kS, fS, st, cS, t1, t2, t3, t4, t5, t6, t7⟩ := S
  exact StaticIs.there (s := { Z with heap := U.heap }) ⟨cfS, iS, kS, fS, st, cS, t1, t2, t3, t4, t5, (fun q => by rw [q] at t6; cases t6), t7⟩ al rfl
/-- **length() OF SUCH A STRING** -/
theorem lenW {p : Program} {l : Launch} {e : Env} {R : Room} {s : State} {args : Array Value} {below : List Frame} {len W : Nat} {Z : State} {a0 : Array Value} {h : Heap} (hZ : Z.Warmed39 s.vm) (hw : ∀ d ∈ wordsLen, d.before a0 Z = true) {kI : Nat} (wi : (Jvm.Cond.instantiable ST kI).before a0 Z = true)
    {x t : Addr} {kb : ClassId} {cs : List Int32} {cd N2 z : Int32} {vs : List Value} (E : RoadKit.Exa Z h x ST) (V : RoadKit.Fld Z h x ST "value" "[B" (.ref t)) (C : RoadKit.Fld Z h x ST "coder" "B" (.int cd)) (K : RoadKit.Arv Z h t kb .byte N2 vs (.int 0)) (hc : CodA cs cd N2 vs) (hb : ∀ c ∈ cs, ¬ c < 0 ∧ ¬ (65535 : Int32) < c)
    (S : RoadKit.Sta Z h ST "COMPACT_STRINGS" "Z" (.int z)) (hz : ¬ z = 0) (l2 : cs.length ≤ 4000) (hfr : 2 ≤ R.frames) (hlo : W + 25 ≤ R.locals) :
    Back l R p e below s args (⟨"java/lang/String", "length", "()I"⟩ : MethodName) len W (fun P a => a = #[.ref x] ∧ P.U.heap = h ∧ P.cells + 0 ≤ R.cells ∧ P.slots + 0 ≤ R.slots)
      (fun P _ v B => ∃ L, (v = some (.int (Int32.ofNat cs.length)) ∧ L = [] ∧ B.U.heap = h) ∧ B.locs = P.locs ++ L ∧ B.cells = P.cells + 0 ∧ B.slots = P.slots + 0) := by
  obtain ⟨A, K1, K2, K3, K4, K5, K6⟩ := K
  have hcod := hc.cod (by omega) K3 K5
  intro m meth c P g ig mk a X hg hsize hdg hW hn hp'
  obtain ⟨rfl, rfl, r1, r2⟩ := hp'
  have al : Z.vm.Alike P.U.vm := hZ.alike.trans X.warmed.alike
  obtain ⟨D, fV, fC, hB, F1, F2, g1, g2, -, -⟩ := strObj wi al E V C
  have hx : Txt x t A cd cs.length (fun j => cs.getD j 0) P.U := ⟨⟨_, hB.2.2.1, D, hB.1, rfl, by cases q : D.vm <;> first | rfl | exact absurd q (hB.2.1.2 _)⟩, Has.of hB F1 g1, Has.of hB F2 g2, ⟨K1.1, State.isArrayOf_alike al K1.2.1, K1.2.2, by rcases hcod with ⟨-, q, -⟩ | ⟨-, q, -⟩ <;> omega⟩, hcod, fun j hj => by
    have e : cs.getD j 0 = cs[j] := by simp [List.getD_eq_getElem?_getD, hj]
    show ¬ cs.getD j 0 < 0 ∧ ¬ 65535 < cs.getD j 0
    rw [e]; exact hb _ (List.getElem_mem _)⟩
  obtain ⟨v, B, X', ⟨⟨hv, hh⟩, hl, hk, hs⟩, st⟩ := Len.pays x t A cd cs.length (fun j => cs.getD j 0) z (tabLen_of (movedLen hZ hw)) hfr hlo m meth c P g ig mk _ X hg hsize hdg hW hn ⟨r1, r2, rfl, hx, sta_is al S, hz⟩
  exact ⟨v, B, X', ⟨[], ⟨hv, rfl, hh⟩, hl, hk, hs⟩, st⟩
end StrChars.Road
namespace StrChars.Road
open Jvm Sem ClassFile Op Lib Jvm.Stand Jvm.Free Jvm.Free.XT
open Jvm.Lib.Cold (StaticIs)
/-- what backV says of its String, as the contracts of this text ask it: cs's low bytes, coder 0 -/
theorem codOf {cs : List Int32} {n : Nat} (hn : cs.length = n) (hb : ∀ c ∈ cs, ¬ 255 < c) : CodA cs 0 (Int32.ofNat n) ((cs.map lo8).map Value.int) := Or.inl ⟨rfl, by rw [hn], by simp [List.map_map, Function.comp_def], hb⟩
end StrChars.Road
end Jvm.Pilot.@@N@@
namespace Jvm.Pilot.@@N@@
open Jvm Sem ClassFile Op Lib Jvm.Stand Jvm.Free Jvm.LawKit Jvm.RoadKit
section New
variable {p : Program} {l : Launch} {e : Env} {R : Room} {s : State} {m : MethodId} {args : Array Value} {below : List Frame} {meth : Method} {c : Code} {T : State} {locs : List Loc} {cells slots : Nat}
theorem retI (X : Stand p l e R s m args below meth c T locs cells slots) (hx : p.tables.exec = Jvm.exec) {pc : Nat} {Ls : Array Slot} {z : Int32} {rest : List Value} (hret : meth.sig.returnType = some .int) (hd : decode c.code pc = .ok (.ireturn, 1)) {fs : List Frame}
    (hl : ∀ (f : JFrame) (acts : List Action), f.method = m → f.locked = none → f.entered = [] → (doReturn e (T.setTop f) acts (some (.int z))).1 = T.setFrames fs) : Steps p.tables e below (T.setTop (mkF m pc Ls (.int z :: rest))) (T.setFrames fs) :=
  retOut X hx hret rfl (Or.inl ⟨rfl, Or.inl rfl, z, rfl⟩) hd hl
end New
end Jvm.Pilot.@@N@@
namespace Jvm.Pilot.@@N@@
open Jvm Jvm.ClassFile Sem Op Lib Jvm.Free Jvm.Stand Jvm.LawKit Jvm.RoadKit Bundle Jvm.Pilot.@@N@@.Jvm.D
theorem S.iload {tb : Tables} [Ours tb] {e : Env} {below : List Frame} {T t : State} {m : MethodId} {c : Code} {pc : Nat} {L : Array Slot} {S : List Value} (h : At T m c below) (hx : tb.exec = Jvm.exec) {k : Nat} {v : Int32} (hd : decode c.code pc = .ok (.iload k, 2)) (hl : L[k]? = some (.val (.int v))) (hr : Steps tb e below (T.setTop (mkF m (pc + 2) L (.int v :: S))) t) : Steps tb e below (T.setTop (mkF m pc L (S))) t := XS.iload h hx rfl hd hl hr
theorem S.iloadN {tb : Tables} [Ours tb] {e : Env} {below : List Frame} {T t : State} {m : MethodId} {c : Code} {pc : Nat} {L : Array Slot} {S : List Value} (h : At T m c below) (hx : tb.exec = Jvm.exec) {k : Fin 4} {v : Int32} (hd : decode c.code pc = .ok (.iload_n k, 1)) (hl : L[k.val]? = some (.val (.int v))) (hr : Steps tb e below (T.setTop (mkF m (pc + 1) L (.int v :: S))) t) : Steps tb e below (T.setTop (mkF m pc L (S))) t := XS.iloadN h hx rfl hd hl hr
theorem S.lload {tb : Tables} [Ours tb] {e : Env} {below : List Frame} {T t : State} {m : MethodId} {c : Code} {pc : Nat} {L : Array Slot} {S : List Value} (h : At T m c below) (hx : tb.exec = Jvm.exec) {k : Nat} {v : Int64} (hd : decode c.code pc = .ok (.lload k, 2)) (hl : L[k]? = some (.val (.long v))) (hr : Steps tb e below (T.setTop (mkF m (pc + 2) L (.long v :: S))) t) : Steps tb e below (T.setTop (mkF m pc L (S))) t := XS.lload h hx rfl hd hl hr
theorem S.lloadN {tb : Tables} [Ours tb] {e : Env} {below : List Frame} {T t : State} {m : MethodId} {c : Code} {pc : Nat} {L : Array Slot} {S : List Value} (h : At T m c below) (hx : tb.exec = Jvm.exec) {k : Fin 4} {v : Int64} (hd : decode c.code pc = .ok (.lload_n k, 1)) (hl : L[k.val]? = some (.val (.long v))) (hr : Steps tb e below (T.setTop (mkF m (pc + 1) L (.long v :: S))) t) : Steps tb e below (T.setTop (mkF m pc L (S))) t := XS.lloadN h hx rfl hd hl hr
theorem S.aload {tb : Tables} [Ours tb] {e : Env} {below : List Frame} {T t : State} {m : MethodId} {c : Code} {pc : Nat} {L : Array Slot} {S : List Value} (h : At T m c below) (hx : tb.exec = Jvm.exec) {k : Nat} {v : Value} (hd : decode c.code pc = .ok (.aload k, 2)) (hl : L[k]? = some (.val v)) (hv : v.isRef = true) (hr : Steps tb e below (T.setTop (mkF m (pc + 2) L (v :: S))) t) : Steps tb e below (T.setTop (mkF m pc L (S))) t := XS.aload h hx rfl hd hl hv hr
theorem S.aloadN {tb : Tables} [Ours tb] {e : Env} {below : List Frame} {T t : State} {m : MethodId} {c : Code} {pc : Nat} {L : Array Slot} {S : List Value} (h : At T m c below) (hx : tb.exec = Jvm.exec) {k : Fin 4} {v : Value} (hd : decode c.code pc = .ok (.aload_n k, 1)) (hl : L[k.val]? = some (.val v)) (hv : v.isRef = true) (hr : Steps tb e below (T.setTop (mkF m (pc + 1) L (v :: S))) t) : Steps tb e below (T.setTop (mkF m pc L (S))) t := XS.aloadN h hx rfl hd hl hv hr
theorem S.istore {tb : Tables} [Ours tb] {e : Env} {below : List Frame} {T t : State} {m : MethodId} {c : Code} {pc : Nat} {L : Array Slot} {S : List Value} (h : At T m c below) (hx : tb.exec = Jvm.exec) {k : Nat} {x : Int32} (hd : decode c.code pc = .ok (.istore k, 2)) (L' : Array Slot) (hl : storeLocals L k (.int x) = some L') (hr : Steps tb e below (T.setTop (mkF m (pc + 2) L' (S))) t) : Steps tb e below (T.setTop (mkF m pc L (.int x :: S))) t := XS.istore h hx rfl hd rfl hl hr
theorem S.istoreN {tb : Tables} [Ours tb] {e : Env} {below : List Frame} {T t : State} {m : MethodId} {c : Code} {pc : Nat} {L : Array Slot} {S : List Value} (h : At T m c below) (hx : tb.exec = Jvm.exec) {k : Fin 4} {x : Int32} (hd : decode c.code pc = .ok (.istore_n k, 1)) (L' : Array Slot) (hl : storeLocals L k.val (.int x) = some L') (hr : Steps tb e below (T.setTop (mkF m (pc + 1) L' (S))) t) : Steps tb e below (T.setTop (mkF m pc L (.int x :: S))) t := XS.istoreN h hx rfl hd rfl hl hr
theorem S.lstore {tb : Tables} [Ours tb] {e : Env} {below : List Frame} {T t : State} {m : MethodId} {c : Code} {pc : Nat} {L : Array Slot} {S : List Value} (h : At T m c below) (hx : tb.exec = Jvm.exec) {k : Nat} {x : Int64} (hd : decode c.code pc = .ok (.lstore k, 2)) (L' : Array Slot) (hl : storeLocals L k (.long x) = some L') (hr : Steps tb e below (T.setTop (mkF m (pc + 2) L' (S))) t) : Steps tb e below (T.setTop (mkF m pc L (.long x :: S))) t := XS.lstore h hx rfl hd rfl hl hr
theorem S.lstoreN {tb : Tables} [Ours tb] {e : Env} {below : List Frame} {T t : State} {m : MethodId} {c : Code} {pc : Nat} {L : Array Slot} {S : List Value} (h : At T m c below) (hx : tb.exec = Jvm.exec) {k : Fin 4} {x : Int64} (hd : decode c.code pc = .ok (.lstore_n k, 1)) (L' : Array Slot) (hl : storeLocals L k.val (.long x) = some L') (hr : Steps tb e below (T.setTop (mkF m (pc + 1) L' (S))) t) : Steps tb e below (T.setTop (mkF m pc L (.long x :: S))) t := XS.lstoreN h hx rfl hd rfl hl hr
theorem S.astore {tb : Tables} [Ours tb] {e : Env} {below : List Frame} {T t : State} {m : MethodId} {c : Code} {pc : Nat} {L : Array Slot} {S : List Value} (h : At T m c below) (hx : tb.exec = Jvm.exec) {k : Nat} {x : Value} (hd : decode c.code pc = .ok (.astore k, 2)) (hv : x.isRef = true) (L' : Array Slot) (hl : storeLocals L k x = some L') (hr : Steps tb e below (T.setTop (mkF m (pc + 2) L' (S))) t) : Steps tb e below (T.setTop (mkF m pc L (x :: S))) t := XS.astore h hx rfl hd rfl hv hl hr
theorem S.astoreN {tb : Tables} [Ours tb] {e : Env} {below : List Frame} {T t : State} {m : MethodId} {c : Code} {pc : Nat} {L : Array Slot} {S : List Value} (h : At T m c below) (hx : tb.exec = Jvm.exec) {k : Fin 4} {x : Value} (hd : decode c.code pc = .ok (.astore_n k, 1)) (hv : x.isRef = true) (L' : Array Slot) (hl : storeLocals L k.val x = some L') (hr : Steps tb e below (T.setTop (mkF m (pc + 1) L' (S))) t) : Steps tb e below (T.setTop (mkF m pc L (x :: S))) t := XS.astoreN h hx rfl hd rfl hv hl hr
theorem S.iconst {tb : Tables} [Ours tb] {e : Env} {below : List Frame} {T t : State} {m : MethodId} {c : Code} {pc : Nat} {L : Array Slot} {S : List Value} (h : At T m c below) (hx : tb.exec = Jvm.exec) {i : Int} (v : Int32) (hd : decode c.code pc = .ok (.iconst i, 1)) (hv : Int32.ofInt i = v) (hr : Steps tb e below (T.setTop (mkF m (pc + 1) L (.int v :: S))) t) : Steps tb e below (T.setTop (mkF m pc L (S))) t := XS.iconst h hx rfl hd (hv ▸ hr)
theorem S.bipush {tb : Tables} [Ours tb] {e : Env} {below : List Frame} {T t : State} {m : MethodId} {c : Code} {pc : Nat} {L : Array Slot} {S : List Value} (h : At T m c below) (hx : tb.exec = Jvm.exec) {i : Int} (v : Int32) (hd : decode c.code pc = .ok (.bipush i, 2)) (hv : (Int8.ofInt i).toInt32 = v) (hr : Steps tb e below (T.setTop (mkF m (pc + 2) L (.int v :: S))) t) : Steps tb e below (T.setTop (mkF m pc L (S))) t := XS.bipush h hx rfl hd (hv ▸ hr)
theorem S.sipush {tb : Tables} [Ours tb] {e : Env} {below : List Frame} {T t : State} {m : MethodId} {c : Code} {pc : Nat} {L : Array Slot} {S : List Value} (h : At T m c below) (hx : tb.exec = Jvm.exec) {i : Int} (v : Int32) (hd : decode c.code pc = .ok (.sipush i, 3)) (hv : (Int16.ofInt i).toInt32 = v) (hr : Steps tb e below (T.setTop (mkF m (pc + 3) L (.int v :: S))) t) : Steps tb e below (T.setTop (mkF m pc L (S))) t := XS.sipush h hx rfl hd (hv ▸ hr)
theorem S.lconst {tb : Tables} [Ours tb] {e : Env} {below : List Frame} {T t : State} {m : MethodId} {c : Code} {pc : Nat} {L : Array Slot} {S : List Value} (h : At T m c below) (hx : tb.exec = Jvm.exec) {k : Fin 2} (v : Int64) (hd : decode c.code pc = .ok (.lconst k, 1)) (hv : Int64.ofNat k = v) (hr : Steps tb e below (T.setTop (mkF m (pc + 1) L (.long v :: S))) t) : Steps tb e below (T.setTop (mkF m pc L (S))) t := XS.lconst h hx rfl hd (hv ▸ hr)
theorem S.aconstNull {tb : Tables} [Ours tb] {e : Env} {below : List Frame} {T t : State} {m : MethodId} {c : Code} {pc : Nat} {L : Array Slot} {S : List Value} (h : At T m c below) (hx : tb.exec = Jvm.exec)  (hd : decode c.code pc = .ok (.aconst_null, 1)) (hr : Steps tb e below (T.setTop (mkF m (pc + 1) L (.null :: S))) t) : Steps tb e below (T.setTop (mkF m pc L (S))) t := XS.aconstNull h hx rfl hd hr
theorem S.iadd {tb : Tables} [Ours tb] {e : Env} {below : List Frame} {T t : State} {m : MethodId} {c : Code} {pc : Nat} {L : Array Slot} {S : List Value} (h : At T m c below) (hx : tb.exec = Jvm.exec) {x y : Int32} (hd : decode c.code pc = .ok (.iadd, 1)) (hr : Steps tb e below (T.setTop (mkF m (pc + 1) L (.int (x + y) :: S))) t) : Steps tb e below (T.setTop (mkF m pc L (.int y :: .int x :: S))) t := XS.iadd h hx rfl hd rfl hr
theorem S.isub {tb : Tables} [Ours tb] {e : Env} {below : List Frame} {T t : State} {m : MethodId} {c : Code} {pc : Nat} {L : Array Slot} {S : List Value} (h : At T m c below) (hx : tb.exec = Jvm.exec) {x y : Int32} (hd : decode c.code pc = .ok (.isub, 1)) (hr : Steps tb e below (T.setTop (mkF m (pc + 1) L (.int (x - y) :: S))) t) : Steps tb e below (T.setTop (mkF m pc L (.int y :: .int x :: S))) t := XS.isub h hx rfl hd rfl hr
theorem S.imul {tb : Tables} [Ours tb] {e : Env} {below : List Frame} {T t : State} {m : MethodId} {c : Code} {pc : Nat} {L : Array Slot} {S : List Value} (h : At T m c below) (hx : tb.exec = Jvm.exec) {x y : Int32} (hd : decode c.code pc = .ok (.imul, 1)) (hr : Steps tb e below (T.setTop (mkF m (pc + 1) L (.int (x * y) :: S))) t) : Steps tb e below (T.setTop (mkF m pc L (.int y :: .int x :: S))) t := XS.imul h hx rfl hd rfl hr
theorem S.iand {tb : Tables} [Ours tb] {e : Env} {below : List Frame} {T t : State} {m : MethodId} {c : Code} {pc : Nat} {L : Array Slot} {S : List Value} (h : At T m c below) (hx : tb.exec = Jvm.exec) {x y : Int32} (hd : decode c.code pc = .ok (.iand, 1)) (hr : Steps tb e below (T.setTop (mkF m (pc + 1) L (.int (x &&& y) :: S))) t) : Steps tb e below (T.setTop (mkF m pc L (.int y :: .int x :: S))) t := XS.iand h hx rfl hd rfl hr
theorem S.ior {tb : Tables} [Ours tb] {e : Env} {below : List Frame} {T t : State} {m : MethodId} {c : Code} {pc : Nat} {L : Array Slot} {S : List Value} (h : At T m c below) (hx : tb.exec = Jvm.exec) {x y : Int32} (hd : decode c.code pc = .ok (.ior, 1)) (hr : Steps tb e below (T.setTop (mkF m (pc + 1) L (.int (x ||| y) :: S))) t) : Steps tb e below (T.setTop (mkF m pc L (.int y :: .int x :: S))) t := XS.ior h hx rfl hd rfl hr
theorem S.ixor {tb : Tables} [Ours tb] {e : Env} {below : List Frame} {T t : State} {m : MethodId} {c : Code} {pc : Nat} {L : Array Slot} {S : List Value} (h : At T m c below) (hx : tb.exec = Jvm.exec) {x y : Int32} (hd : decode c.code pc = .ok (.ixor, 1)) (hr : Steps tb e below (T.setTop (mkF m (pc + 1) L (.int (x ^^^ y) :: S))) t) : Steps tb e below (T.setTop (mkF m pc L (.int y :: .int x :: S))) t := XS.ixor h hx rfl hd rfl hr
theorem S.ladd {tb : Tables} [Ours tb] {e : Env} {below : List Frame} {T t : State} {m : MethodId} {c : Code} {pc : Nat} {L : Array Slot} {S : List Value} (h : At T m c below) (hx : tb.exec = Jvm.exec) {x y : Int64} (hd : decode c.code pc = .ok (.ladd, 1)) (hr : Steps tb e below (T.setTop (mkF m (pc + 1) L (.long (x + y) :: S))) t) : Steps tb e below (T.setTop (mkF m pc L (.long y :: .long x :: S))) t := XS.ladd h hx rfl hd rfl hr
theorem S.lsub {tb : Tables} [Ours tb] {e : Env} {below : List Frame} {T t : State} {m : MethodId} {c : Code} {pc : Nat} {L : Array Slot} {S : List Value} (h : At T m c below) (hx : tb.exec = Jvm.exec) {x y : Int64} (hd : decode c.code pc = .ok (.lsub, 1)) (hr : Steps tb e below (T.setTop (mkF m (pc + 1) L (.long (x - y) :: S))) t) : Steps tb e below (T.setTop (mkF m pc L (.long y :: .long x :: S))) t := XS.lsub h hx rfl hd rfl hr
theorem S.lmul {tb : Tables} [Ours tb] {e : Env} {below : List Frame} {T t : State} {m : MethodId} {c : Code} {pc : Nat} {L : Array Slot} {S : List Value} (h : At T m c below) (hx : tb.exec = Jvm.exec) {x y : Int64} (hd : decode c.code pc = .ok (.lmul, 1)) (hr : Steps tb e below (T.setTop (mkF m (pc + 1) L (.long (x * y) :: S))) t) : Steps tb e below (T.setTop (mkF m pc L (.long y :: .long x :: S))) t := XS.lmul h hx rfl hd rfl hr
theorem S.land {tb : Tables} [Ours tb] {e : Env} {below : List Frame} {T t : State} {m : MethodId} {c : Code} {pc : Nat} {L : Array Slot} {S : List Value} (h : At T m c below) (hx : tb.exec = Jvm.exec) {x y : Int64} (hd : decode c.code pc = .ok (.land, 1)) (hr : Steps tb e below (T.setTop (mkF m (pc + 1) L (.long (x &&& y) :: S))) t) : Steps tb e below (T.setTop (mkF m pc L (.long y :: .long x :: S))) t := XS.land h hx rfl hd rfl hr
theorem S.lor {tb : Tables} [Ours tb] {e : Env} {below : List Frame} {T t : State} {m : MethodId} {c : Code} {pc : Nat} {L : Array Slot} {S : List Value} (h : At T m c below) (hx : tb.exec = Jvm.exec) {x y : Int64} (hd : decode c.code pc = .ok (.lor, 1)) (hr : Steps tb e below (T.setTop (mkF m (pc + 1) L (.long (x ||| y) :: S))) t) : Steps tb e below (T.setTop (mkF m pc L (.long y :: .long x :: S))) t := XS.lor h hx rfl hd rfl hr
theorem S.lxor {tb : Tables} [Ours tb] {e : Env} {below : List Frame} {T t : State} {m : MethodId} {c : Code} {pc : Nat} {L : Array Slot} {S : List Value} (h : At T m c below) (hx : tb.exec = Jvm.exec) {x y : Int64} (hd : decode c.code pc = .ok (.lxor, 1)) (hr : Steps tb e below (T.setTop (mkF m (pc + 1) L (.long (x ^^^ y) :: S))) t) : Steps tb e below (T.setTop (mkF m pc L (.long y :: .long x :: S))) t := XS.lxor h hx rfl hd rfl hr
theorem S.iaddV {tb : Tables} [Ours tb] {e : Env} {below : List Frame} {T t : State} {m : MethodId} {c : Code} {pc : Nat} {L : Array Slot} {S : List Value} (h : At T m c below) (hx : tb.exec = Jvm.exec) {x y : Int32} (v : Int32) (hd : decode c.code pc = .ok (.iadd, 1)) (hv : x + y = v) (hr : Steps tb e below (T.setTop (mkF m (pc + 1) L (.int v :: S))) t) : Steps tb e below (T.setTop (mkF m pc L (.int y :: .int x :: S))) t := XS.iadd h hx rfl hd rfl (hv ▸ hr)
theorem S.isubV {tb : Tables} [Ours tb] {e : Env} {below : List Frame} {T t : State} {m : MethodId} {c : Code} {pc : Nat} {L : Array Slot} {S : List Value} (h : At T m c below) (hx : tb.exec = Jvm.exec) {x y : Int32} (v : Int32) (hd : decode c.code pc = .ok (.isub, 1)) (hv : x - y = v) (hr : Steps tb e below (T.setTop (mkF m (pc + 1) L (.int v :: S))) t) : Steps tb e below (T.setTop (mkF m pc L (.int y :: .int x :: S))) t := XS.isub h hx rfl hd rfl (hv ▸ hr)
theorem S.imulV {tb : Tables} [Ours tb] {e : Env} {below : List Frame} {T t : State} {m : MethodId} {c : Code} {pc : Nat} {L : Array Slot} {S : List Value} (h : At T m c below) (hx : tb.exec = Jvm.exec) {x y : Int32} (v : Int32) (hd : decode c.code pc = .ok (.imul, 1)) (hv : x * y = v) (hr : Steps tb e below (T.setTop (mkF m (pc + 1) L (.int v :: S))) t) : Steps tb e below (T.setTop (mkF m pc L (.int y :: .int x :: S))) t := XS.imul h hx rfl hd rfl (hv ▸ hr)
theorem S.ishl {tb : Tables} [Ours tb] {e : Env} {below : List Frame} {T t : State} {m : MethodId} {c : Code} {pc : Nat} {L : Array Slot} {S : List Value} (h : At T m c below) (hx : tb.exec = Jvm.exec) {x : Int32} {y : Int32} (hd : decode c.code pc = .ok (.ishl, 1)) (hr : Steps tb e below (T.setTop (mkF m (pc + 1) L (.int (x <<< (y &&& 31)) :: S))) t) : Steps tb e below (T.setTop (mkF m pc L (.int y :: .int x :: S))) t := XS.ishl h hx rfl hd rfl hr
theorem S.ishr {tb : Tables} [Ours tb] {e : Env} {below : List Frame} {T t : State} {m : MethodId} {c : Code} {pc : Nat} {L : Array Slot} {S : List Value} (h : At T m c below) (hx : tb.exec = Jvm.exec) {x : Int32} {y : Int32} (hd : decode c.code pc = .ok (.ishr, 1)) (hr : Steps tb e below (T.setTop (mkF m (pc + 1) L (.int (x >>> (y &&& 31)) :: S))) t) : Steps tb e below (T.setTop (mkF m pc L (.int y :: .int x :: S))) t := XS.ishr h hx rfl hd rfl hr
theorem S.iushr {tb : Tables} [Ours tb] {e : Env} {below : List Frame} {T t : State} {m : MethodId} {c : Code} {pc : Nat} {L : Array Slot} {S : List Value} (h : At T m c below) (hx : tb.exec = Jvm.exec) {x : Int32} {y : Int32} (hd : decode c.code pc = .ok (.iushr, 1)) (hr : Steps tb e below (T.setTop (mkF m (pc + 1) L (.int ((x.toUInt32 >>> (y &&& 31).toUInt32).toInt32) :: S))) t) : Steps tb e below (T.setTop (mkF m pc L (.int y :: .int x :: S))) t := XS.iushr h hx rfl hd rfl hr
theorem S.lshl {tb : Tables} [Ours tb] {e : Env} {below : List Frame} {T t : State} {m : MethodId} {c : Code} {pc : Nat} {L : Array Slot} {S : List Value} (h : At T m c below) (hx : tb.exec = Jvm.exec) {x : Int64} {y : Int32} (hd : decode c.code pc = .ok (.lshl, 1)) (hr : Steps tb e below (T.setTop (mkF m (pc + 1) L (.long (x <<< (y &&& 0x3f).toInt64) :: S))) t) : Steps tb e below (T.setTop (mkF m pc L (.int y :: .long x :: S))) t := XS.lshl h hx rfl hd rfl hr
theorem S.lshr {tb : Tables} [Ours tb] {e : Env} {below : List Frame} {T t : State} {m : MethodId} {c : Code} {pc : Nat} {L : Array Slot} {S : List Value} (h : At T m c below) (hx : tb.exec = Jvm.exec) {x : Int64} {y : Int32} (hd : decode c.code pc = .ok (.lshr, 1)) (hr : Steps tb e below (T.setTop (mkF m (pc + 1) L (.long (x >>> (y &&& 0x3f).toInt64) :: S))) t) : Steps tb e below (T.setTop (mkF m pc L (.int y :: .long x :: S))) t := XS.lshr h hx rfl hd rfl hr
theorem S.lushr {tb : Tables} [Ours tb] {e : Env} {below : List Frame} {T t : State} {m : MethodId} {c : Code} {pc : Nat} {L : Array Slot} {S : List Value} (h : At T m c below) (hx : tb.exec = Jvm.exec) {x : Int64} {y : Int32} (hd : decode c.code pc = .ok (.lushr, 1)) (hr : Steps tb e below (T.setTop (mkF m (pc + 1) L (.long ((x.toUInt64 >>> (y &&& 0x3f).toInt64.toUInt64).toInt64) :: S))) t) : Steps tb e below (T.setTop (mkF m pc L (.int y :: .long x :: S))) t := XS.lushr h hx rfl hd rfl hr
theorem S.i2c {tb : Tables} [Ours tb] {e : Env} {below : List Frame} {T t : State} {m : MethodId} {c : Code} {pc : Nat} {L : Array Slot} {S : List Value} (h : At T m c below) (hx : tb.exec = Jvm.exec) {x : Int32} (hd : decode c.code pc = .ok (.i2c, 1)) (hr : Steps tb e below (T.setTop (mkF m (pc + 1) L (.int (x.toUInt32.toUInt16.toUInt32.toInt32) :: S))) t) : Steps tb e below (T.setTop (mkF m pc L (.int x :: S))) t := XS.i2c h hx rfl hd rfl hr
theorem S.i2b {tb : Tables} [Ours tb] {e : Env} {below : List Frame} {T t : State} {m : MethodId} {c : Code} {pc : Nat} {L : Array Slot} {S : List Value} (h : At T m c below) (hx : tb.exec = Jvm.exec) {x : Int32} (hd : decode c.code pc = .ok (.i2b, 1)) (hr : Steps tb e below (T.setTop (mkF m (pc + 1) L (.int (x.toInt8.toInt32) :: S))) t) : Steps tb e below (T.setTop (mkF m pc L (.int x :: S))) t := XS.i2b h hx rfl hd rfl hr
theorem S.i2l {tb : Tables} [Ours tb] {e : Env} {below : List Frame} {T t : State} {m : MethodId} {c : Code} {pc : Nat} {L : Array Slot} {S : List Value} (h : At T m c below) (hx : tb.exec = Jvm.exec) {x : Int32} (hd : decode c.code pc = .ok (.i2l, 1)) (hr : Steps tb e below (T.setTop (mkF m (pc + 1) L (.long (x.toInt64) :: S))) t) : Steps tb e below (T.setTop (mkF m pc L (.int x :: S))) t := XS.i2l h hx rfl hd rfl hr
theorem S.l2i {tb : Tables} [Ours tb] {e : Env} {below : List Frame} {T t : State} {m : MethodId} {c : Code} {pc : Nat} {L : Array Slot} {S : List Value} (h : At T m c below) (hx : tb.exec = Jvm.exec) {x : Int64} (hd : decode c.code pc = .ok (.l2i, 1)) (hr : Steps tb e below (T.setTop (mkF m (pc + 1) L (.int (x.toInt32) :: S))) t) : Steps tb e below (T.setTop (mkF m pc L (.long x :: S))) t := XS.l2i h hx rfl hd rfl hr
theorem S.ineg {tb : Tables} [Ours tb] {e : Env} {below : List Frame} {T t : State} {m : MethodId} {c : Code} {pc : Nat} {L : Array Slot} {S : List Value} (h : At T m c below) (hx : tb.exec = Jvm.exec) {x : Int32} (hd : decode c.code pc = .ok (.ineg, 1)) (hr : Steps tb e below (T.setTop (mkF m (pc + 1) L (.int (-x) :: S))) t) : Steps tb e below (T.setTop (mkF m pc L (.int x :: S))) t := XS.ineg h hx rfl hd rfl hr
theorem S.i2cM {tb : Tables} [Ours tb] {e : Env} {below : List Frame} {T t : State} {m : MethodId} {c : Code} {pc : Nat} {L : Array Slot} {S : List Value} (h : At T m c below) (hx : tb.exec = Jvm.exec) {x : Int32} (hd : decode c.code pc = .ok (.i2c, 1)) (hr : Steps tb e below (T.setTop (mkF m (pc + 1) L (.int (x &&& 255) :: S))) t) : Steps tb e below (T.setTop (mkF m pc L (.int (x &&& 255) :: S))) t := XS.i2c h hx rfl hd rfl (by rw [i2c_mask]; exact hr)
theorem S.iinc {tb : Tables} [Ours tb] {e : Env} {below : List Frame} {T t : State} {m : MethodId} {c : Code} {pc : Nat} {L : Array Slot} {S : List Value} (h : At T m c below) (hx : tb.exec = Jvm.exec) {k : Nat} {d : Int} {x : Int32} (v : Int32) (hd : decode c.code pc = .ok (.iinc k d, 3)) (hl : L[k]? = some (.val (.int x))) (hv : x + Int32.ofInt d = v) (L' : Array Slot) (hl' : storeLocals L k (.int v) = some L') (hr : Steps tb e below (T.setTop (mkF m (pc + 3) L' (S))) t) : Steps tb e below (T.setTop (mkF m pc L (S))) t := XS.iinc h hx rfl hd hl (hv ▸ hl') hr
theorem S.dup {tb : Tables} [Ours tb] {e : Env} {below : List Frame} {T t : State} {m : MethodId} {c : Code} {pc : Nat} {L : Array Slot} {S : List Value} (h : At T m c below) (hx : tb.exec = Jvm.exec) {x : Value} (hd : decode c.code pc = .ok (.dup, 1)) (hc : x.category = 1) (hr : Steps tb e below (T.setTop (mkF m (pc + 1) L (x :: x :: S))) t) : Steps tb e below (T.setTop (mkF m pc L (x :: S))) t := XS.dup h hx rfl hd rfl hc hr
theorem S.pop {tb : Tables} [Ours tb] {e : Env} {below : List Frame} {T t : State} {m : MethodId} {c : Code} {pc : Nat} {L : Array Slot} {S : List Value} (h : At T m c below) (hx : tb.exec = Jvm.exec) {x : Value} (hd : decode c.code pc = .ok (.pop, 1)) (hc : x.category = 1) (hr : Steps tb e below (T.setTop (mkF m (pc + 1) L (S))) t) : Steps tb e below (T.setTop (mkF m pc L (x :: S))) t := XS.pop h hx rfl hd rfl hc hr
theorem S.lcmp {tb : Tables} [Ours tb] {e : Env} {below : List Frame} {T t : State} {m : MethodId} {c : Code} {pc : Nat} {L : Array Slot} {S : List Value} (h : At T m c below) (hx : tb.exec = Jvm.exec) {x y : Int64} (hd : decode c.code pc = .ok (.lcmp, 1)) (hr : Steps tb e below (T.setTop (mkF m (pc + 1) L (.int (if x > y then 1 else if x = y then 0 else -1) :: S))) t) : Steps tb e below (T.setTop (mkF m pc L (.long y :: .long x :: S))) t := XS.lcmp h hx rfl hd rfl hr
theorem S.goto {tb : Tables} [Ours tb] {e : Env} {below : List Frame} {T t : State} {m : MethodId} {c : Code} {pc : Nat} {L : Array Slot} {S : List Value} (h : At T m c below) (hx : tb.exec = Jvm.exec) {o : Int} (pc' : Nat) (hd : decode c.code pc = .ok (.goto o, 3)) (ho : 0 ≤ (pc : Int) + o) (hp : ((pc : Int) + o).toNat = pc') (hr : Steps tb e below (T.setTop (mkF m (pc') L (S))) t) : Steps tb e below (T.setTop (mkF m pc L (S))) t := XS.goto h hx rfl rfl hd ho hp hr
theorem S.ifYes {tb : Tables} [Ours tb] {e : Env} {below : List Frame} {T t : State} {m : MethodId} {c : Code} {pc : Nat} {L : Array Slot} {S : List Value} (h : At T m c below) (hx : tb.exec = Jvm.exec) {cd : ClassFile.Cond} {x : Int32} {o : Int} (pc' : Nat) (hd : decode c.code pc = .ok (.ifCond cd o, 3)) (hc : ifCond.holds cd x = true) (ho : 0 ≤ (pc : Int) + o) (hp : ((pc : Int) + o).toNat = pc') (hr : Steps tb e below (T.setTop (mkF m (pc') L (S))) t) : Steps tb e below (T.setTop (mkF m pc L (.int x :: S))) t := XS.ifYes h hx rfl rfl hd rfl hc ho hp hr
theorem S.ifNo {tb : Tables} [Ours tb] {e : Env} {below : List Frame} {T t : State} {m : MethodId} {c : Code} {pc : Nat} {L : Array Slot} {S : List Value} (h : At T m c below) (hx : tb.exec = Jvm.exec) {cd : ClassFile.Cond} {x : Int32} {o : Int} (hd : decode c.code pc = .ok (.ifCond cd o, 3)) (hc : ifCond.holds cd x = false) (hr : Steps tb e below (T.setTop (mkF m (pc + 3) L (S))) t) : Steps tb e below (T.setTop (mkF m pc L (.int x :: S))) t := XS.ifNo h hx rfl hd rfl hc hr
theorem S.icmpYes {tb : Tables} [Ours tb] {e : Env} {below : List Frame} {T t : State} {m : MethodId} {c : Code} {pc : Nat} {L : Array Slot} {S : List Value} (h : At T m c below) (hx : tb.exec = Jvm.exec) {cd : ClassFile.Cond} {x y : Int32} {o : Int} (pc' : Nat) (hd : decode c.code pc = .ok (.if_icmp cd o, 3)) (hc : if_icmp.holds cd x y = true) (ho : 0 ≤ (pc : Int) + o) (hp : ((pc : Int) + o).toNat = pc') (hr : Steps tb e below (T.setTop (mkF m (pc') L (S))) t) : Steps tb e below (T.setTop (mkF m pc L (.int y :: .int x :: S))) t := XS.icmpYes h hx rfl rfl hd rfl hc ho hp hr
theorem S.icmpNo {tb : Tables} [Ours tb] {e : Env} {below : List Frame} {T t : State} {m : MethodId} {c : Code} {pc : Nat} {L : Array Slot} {S : List Value} (h : At T m c below) (hx : tb.exec = Jvm.exec) {cd : ClassFile.Cond} {x y : Int32} {o : Int} (hd : decode c.code pc = .ok (.if_icmp cd o, 3)) (hc : if_icmp.holds cd x y = false) (hr : Steps tb e below (T.setTop (mkF m (pc + 3) L (S))) t) : Steps tb e below (T.setTop (mkF m pc L (.int y :: .int x :: S))) t := XS.icmpNo h hx rfl hd rfl hc hr
theorem S.ifnullYes {tb : Tables} [Ours tb] {e : Env} {below : List Frame} {T t : State} {m : MethodId} {c : Code} {pc : Nat} {L : Array Slot} {S : List Value} (h : At T m c below) (hx : tb.exec = Jvm.exec) {o : Int} (pc' : Nat) (hd : decode c.code pc = .ok (.ifnull o, 3)) (ho : 0 ≤ (pc : Int) + o) (hp : ((pc : Int) + o).toNat = pc') (hr : Steps tb e below (T.setTop (mkF m (pc') L (S))) t) : Steps tb e below (T.setTop (mkF m pc L (.null :: S))) t := XS.ifnullYes h hx rfl rfl hd rfl ho hp hr
theorem S.ifnullNo {tb : Tables} [Ours tb] {e : Env} {below : List Frame} {T t : State} {m : MethodId} {c : Code} {pc : Nat} {L : Array Slot} {S : List Value} (h : At T m c below) (hx : tb.exec = Jvm.exec) {o : Int} {b : Addr} (hd : decode c.code pc = .ok (.ifnull o, 3)) (hr : Steps tb e below (T.setTop (mkF m (pc + 3) L (S))) t) : Steps tb e below (T.setTop (mkF m pc L (.ref b :: S))) t := XS.ifnullNo h hx rfl hd rfl hr
theorem S.ifnonnullYes {tb : Tables} [Ours tb] {e : Env} {below : List Frame} {T t : State} {m : MethodId} {c : Code} {pc : Nat} {L : Array Slot} {S : List Value} (h : At T m c below) (hx : tb.exec = Jvm.exec) {o : Int} {b : Addr} (pc' : Nat) (hd : decode c.code pc = .ok (.ifnonnull o, 3)) (ho : 0 ≤ (pc : Int) + o) (hp : ((pc : Int) + o).toNat = pc') (hr : Steps tb e below (T.setTop (mkF m (pc') L (S))) t) : Steps tb e below (T.setTop (mkF m pc L (.ref b :: S))) t := XS.ifnonnullYes h hx rfl rfl hd rfl ho hp hr
theorem S.ifnonnullNo {tb : Tables} [Ours tb] {e : Env} {below : List Frame} {T t : State} {m : MethodId} {c : Code} {pc : Nat} {L : Array Slot} {S : List Value} (h : At T m c below) (hx : tb.exec = Jvm.exec) {o : Int} (hd : decode c.code pc = .ok (.ifnonnull o, 3)) (hr : Steps tb e below (T.setTop (mkF m (pc + 3) L (S))) t) : Steps tb e below (T.setTop (mkF m pc L (.null :: S))) t := XS.ifnonnullNo h hx rfl hd rfl hr
end Jvm.Pilot.@@N@@
namespace Jvm.Pilot.@@N@@
open Jvm Jvm.ClassFile Sem Op Lib Jvm.Free Jvm.Stand Jvm.LawKit Jvm.RoadKit Bundle Jvm.Pilot.@@N@@.Jvm.D
section OwnKit
variable {p : Program} {l : Launch} {e : Env} {R : Room} {s : State} {m : MethodId} {args : Array Value} {below : List Frame} {meth : Method} {c : Code} {Z : State} {a0 : Array Value} {EL : List (String × Nat)} {n0 : Nat} {own : String} {nw : Bool} {st : State} {vm0 : Vm} {h : Heap} {g g' : JFrame} {cells slots : Nat}
/-- where a walk stands: the heap h, the frame g, so many cells and slots made; nw: nothing interned since its start -/
def Wk (p : Program) (l : Launch) (e : Env) (R : Room) (s : State) (m : MethodId) (args : Array Value) (below : List Frame) (meth : Method) (c : Code) (Z : State) (a0 : Array Value) (EL : List (String × Nat)) (n0 : Nat) (own : String) (nw : Bool) (st : State) (vm0 : Vm) (h : Heap) (g : JFrame) (cells slots : Nat) : Prop :=
  ∃ (T : State) (locs : List Loc) (k0 : Nat), Stand p l e R (s.setVm vm0) m args below meth c T locs cells slots ∧ T.heap = h ∧ s.Since vm0 k0 ∧ k0 ≤ h.size ∧ Z.Warmed39 vm0 ∧ vm0.findClass own = some m.cls ∧ Fr n0 locs ∧ (nw = true → vm0 = s.vm) ∧ EW Z a0 EL ∧ CHr Z EL s.vm s.heap vm0 h ∧ p.tables.exec = Jvm.exec ∧ ∀ t, Steps p.tables e below (T.setTop g) t → Steps p.tables e below st t
theorem exlt {h : Heap} {a : Addr} {C : String} (E : Exa Z h a C) : h.size > a := E.lt
theorem arlt {h : Heap} {a : Addr} {k : ClassId} {ty : FieldType} {z : Int32} {vs : List Value} {d : Value} (V : Arv Z h a k ty z vs d) : h.size > a := V.lt
theorem nne {a b : Nat} (h : a < b ∨ b < a) : a ≠ b := by omega
theorem safe0 {vm : Vm} {h : Heap} {x : Addr} : Safe Z [] vm h x := fun ⟨_, hp, _⟩ => nomatch hp
theorem chv0 {vm : Vm} {h : Heap} : CHv Z [] vm h := fun _ hp => nomatch hp
theorem Wk.start {x : MethodName} {S : Spec} {code : ByteArray} {maxLocals : Nat} {ret : Option FieldType} {s₁ : State} (Bd : BodyLoose p l x S code maxLocals ret e s m args below meth c s₁) (hZ : Z.Warmed39 s.vm) (hh : s.heap = h) (hE : EW Z a0 EL) (hC : CHv Z EL s.vm h) (ef : entryFrame m args maxLocals = g) (R : Room) (hR : S.room = R) :
    Wk p l e R s m args below meth c Z a0 EL n0 x.cls nw (s₁.setTop (entryFrame m args maxLocals)) s.vm h g 0 0 := by
  subst hh hR
  exact ⟨s₁, [], s.heap.size, Stand.of_body Bd, by rw [Bd.state]; rfl, (State.WarmedH.refl s).since _, Nat.le_refl _, hZ, findClass_of_methodNamed Bd.named, Fr.nil _, fun _ => rfl, hE, CHr.refl hC, Bd.exec, fun t k => castTop ef k⟩
theorem Wk.hZ (w : Wk p l e R s m args below meth c Z a0 EL n0 own nw st vm0 h g cells slots) : Z.Warmed39 (s.setVm vm0).vm := by
  obtain ⟨T, locs, k0, X, eT, hS, hk, hZ, hown, N, hnw, hE, hC, hx, pre⟩ := w; exact hZ
theorem Wk.al (w : Wk p l e R s m args below meth c Z a0 EL n0 own nw st vm0 h g cells slots) : Z.vm.Alike vm0 := State.Warmed39.alike (s := Z) w.hZ
theorem Wk.chv (w : Wk p l e R s m args below meth c Z a0 EL n0 own nw st vm0 h g cells slots) : CHv Z EL vm0 h := by
  obtain ⟨T, locs, k0, X, eT, hS, hk, hZ, hown, N, hnw, hE, hC, hx, pre⟩ := w; exact hC.1
theorem Wk.pure (w : Wk p l e R s m args below meth c Z a0 EL n0 own nw st vm0 h g cells slots) (g' : JFrame)
    (k : ∀ {T : State} {locs : List Loc} {t : State}, Stand p l e R (s.setVm vm0) m args below meth c T locs cells slots → T.heap = h → Z.Warmed39 (s.setVm vm0).vm → (s.setVm vm0).vm.findClass own = some m.cls → Steps p.tables e below (T.setTop g') t → Steps p.tables e below (T.setTop g) t) :
    Wk p l e R s m args below meth c Z a0 EL n0 own nw st vm0 h g' cells slots := by
  obtain ⟨T, locs, k0, X, eT, hS, hk, hZ, hown, N, hnw, hE, hC, hx, pre⟩ := w
  exact ⟨T, locs, k0, X, eT, hS, hk, hZ, hown, N, hnw, hE, hC, hx, fun t q => pre t (k X eT hZ hown q)⟩
/-- a step that moves the tables alone -/
theorem Wk.same (w : Wk p l e R s m args below meth c Z a0 EL n0 own nw st vm0 h g cells slots) (g' : JFrame)
    (k : ∀ {T : State} {locs : List Loc}, Stand p l e R (s.setVm vm0) m args below meth c T locs cells slots → T.heap = h → Z.Warmed39 (s.setVm vm0).vm → (s.setVm vm0).vm.findClass own = some m.cls → ∃ T', Stand p l e R (s.setVm vm0) m args below meth c T' locs cells slots ∧ T'.heap = h ∧ ∀ t, Steps p.tables e below (T'.setTop g') t → Steps p.tables e below (T.setTop g) t) :
    Wk p l e R s m args below meth c Z a0 EL n0 own nw st vm0 h g' cells slots := by
  obtain ⟨T, locs, k0, X, eT, hS, hk, hZ, hown, N, hnw, hE, hC, hx, pre⟩ := w
  obtain ⟨T', X', e', q⟩ := k X eT hZ hown
  exact ⟨T', locs, k0, X', e', hS, hk, hZ, hown, N, hnw, hE, hC, hx, fun t z => pre t (q t z)⟩
theorem Wk.more (w : Wk p l e R s m args below meth c Z a0 EL n0 own nw st vm0 h g cells slots) {k n : Nat} (hc : cells ≤ k) (hn : slots ≤ n) : Wk p l e R s m args below meth c Z a0 EL n0 own nw st vm0 h g k n := by
  obtain ⟨T, locs, k0, X, eT, hS, hk, hZ, hown, N, hnw, hE, hC, hx, pre⟩ := w
  exact ⟨T, locs, k0, X.mono hc hn, eT, hS, hk, hZ, hown, N, hnw, hE, hC, hx, pre⟩
theorem Wk.newO (w : Wk p l e R s m args below meth c Z a0 EL n0 own nw st vm0 h g cells slots) (hx : p.tables.exec = Jvm.exec) {C : String} {index n : Nat} (w1 : (Cond.classLink own index C).before a0 Z = true) (w2 : (Cond.instantiable C n).before a0 Z = true) (w3 : (Cond.initialized C).before a0 Z = true)
    (hg : g.method = m) (hd : decode c.code g.pc = .ok (.new index, 3)) (hc : cells + 1 ≤ R.cells) (hl : slots + n ≤ R.slots) (g' : Addr → JFrame) (hg' : ∀ x, g' x = { g with pc := g.pc + 3, stack := .ref x :: g.stack }) :
    ∃ (x : Nat) (h' : Heap), x = h.size ∧ Ext h h' ∧ h'.size > x ∧ Exa Z h' x C ∧ (∀ {O nm d : String} {ty : FieldType}, Laid Z a0 C O nm d → parseFieldDescriptor d = some ty → Fld Z h' x O nm d (defaultValue ty)) ∧ Safe Z EL vm0 h' x ∧ Wk p l e R s m args below meth c Z a0 EL n0 own nw st vm0 h' (g' x) (cells + 1) (slots + n) := by
  obtain ⟨T, locs, k0, X, eT, hS, hk, hZ, hown, N, hnw, hE, hC, -, pre⟩ := w
  obtain ⟨T', h', X', e', E, A, D, -, st'⟩ := RoadKit.newO X hx hZ hown w1 w2 w3 eT hg hd hc hl
  exact ⟨h.size, h', rfl, E, A.lt, A, D, Safe.ext E hC.1 (Safe.new (Nat.le_refl _)), T', locs, k0, X', e', hS, Nat.le_trans hk E.1, hZ, hown, N, hnw, hE, hC.trans (CHr.ext E hC.1), hx, fun t k => pre t (st' t (hg' h.size ▸ k))⟩
theorem Wk.newP (w : Wk p l e R s m args below meth c Z a0 EL n0 own nw st vm0 h g cells slots) (hx : p.tables.exec = Jvm.exec) {aty : ArrayType} (w1 : (Cond.arrayClass (newarray.typeOf aty)).before a0 Z = true) (hg : g.method = m) (hd : decode c.code g.pc = .ok (.newarray aty, 2)) {n : Int32} {rest : List Value} (hs : g.stack = .int n :: rest)
    (hn : ¬ n < 0) (cap : Nat) (hcap : n.toNatClampNeg ≤ cap) (hb : cap * 8 ≤ 536870912) (hc : cells + 1 ≤ R.cells) (hl : slots + cap ≤ R.slots) (g' : Addr → JFrame) (hg' : ∀ x, g' x = { g with pc := g.pc + 2, stack := .ref x :: rest }) :
    ∃ (x : Nat) (h' : Heap) (k : ClassId), x = h.size ∧ Ext h h' ∧ h'.size > x ∧ Arv Z h' x k (newarray.typeOf aty) n [] (defaultValue (newarray.typeOf aty)) ∧ Safe Z EL vm0 h' x ∧ Wk p l e R s m args below meth c Z a0 EL n0 own nw st vm0 h' (g' x) (cells + 1) (slots + cap) := by
  obtain ⟨T, locs, k0, X, eT, hS, hk, hZ, hown, N, hnw, hE, hC, -, pre⟩ := w
  obtain ⟨T', h', k, X', e', E, A, st'⟩ := RoadKit.newP X hx hZ w1 eT hg hd hs hn hcap hb hc hl
  exact ⟨h.size, h', k, rfl, E, A.lt, Arv.new A hn, Safe.ext E hC.1 (Safe.new (Nat.le_refl _)), T', locs, k0, X', e', hS, Nat.le_trans hk E.1, hZ, hown, N, hnw, hE, hC.trans (CHr.ext E hC.1), hx, fun t q => pre t (st' t (hg' h.size ▸ q))⟩
theorem Wk.putF (w : Wk p l e R s m args below meth c Z a0 EL n0 own nw st vm0 h g cells slots) (hx : p.tables.exec = Jvm.exec) {R0 O n d host C : String} {index kk : Nat} {ty : FieldType} (w1 : (Cond.fieldLink own index R0 n d).before a0 Z = true ∨ (Cond.fieldLinkNest own index R0 n d host).before a0 Z = true) (via : Via Z R0 O n d)
    {a : Addr} {v old : Value} (F : Fld Z h a O n d old) (E : Exa Z h a C) (L : (Cond.lays C O n d).before a0 Z = true ∨ ((Cond.laysFinal C O n d).before a0 Z = true ∧ own = O ∧ meth.name = "<init>")) (wi : (Cond.instantiable C kk).before a0 Z = true)
    (hty : parseFieldDescriptor d = some ty) (hn : narrow ty v = v) (hf : fits ty v = true) (hg : g.method = m) {rest : List Value} (hs : g.stack = v :: .ref a :: rest) (hd : decode c.code g.pc = .ok (.putfield index, 3)) (na : n0 ≤ a) (sf : Safe Z EL vm0 h a) (g' : JFrame) (hg' : g' = { g with pc := g.pc + 3, stack := rest }) :
    ∃ h', Wr h h' a (RoadKit.slotOf Z O n d) v ∧ h'.size = h.size ∧ Fld Z h' a O n d v ∧ Wk p l e R s m args below meth c Z a0 EL n0 own nw st vm0 h' g' cells slots := by
  obtain ⟨T, locs, k0, X, eT, hS, hk, hZ, hown, N, hnw, hE, hC, -, pre⟩ := w
  obtain ⟨T', h', X', e', W, st'⟩ := RoadKit.putF X hx hZ hown w1 via eT F E L wi hty hn hf hg hs hd
  exact ⟨h', W, W.size, F.same W, T', _, k0, X', e', hS, by rw [W.size]; exact hk, hZ, hown, Fr.snoc X' N na, hnw, hE, hC.trans (CHr.wr W sf hC.1), hx, fun t q => pre t (st' t (hg' ▸ q))⟩
theorem Wk.putFN (w : Wk p l e R s m args below meth c Z a0 EL n0 own nw st vm0 h g cells slots) (hx : p.tables.exec = Jvm.exec) {R0 O n d C : String} {index kk : Nat} {ty : FieldType} (w1 : (Cond.fieldLink own index R0 n d).before a0 Z = true) (via : Via Z R0 O n d)
    {a : Addr} {v old : Value} (v' : Value) (F : Fld Z h a O n d old) (E : Exa Z h a C) (L : (Cond.lays C O n d).before a0 Z = true ∨ ((Cond.laysFinal C O n d).before a0 Z = true ∧ own = O ∧ meth.name = "<init>")) (wi : (Cond.instantiable C kk).before a0 Z = true)
    (hty : parseFieldDescriptor d = some ty) (hn : narrow ty v = v') (hf : fits ty v' = true) (hg : g.method = m) {rest : List Value} (hs : g.stack = v :: .ref a :: rest) (hd : decode c.code g.pc = .ok (.putfield index, 3)) (na : n0 ≤ a) (sf : Safe Z EL vm0 h a) (g' : JFrame) (hg' : g' = { g with pc := g.pc + 3, stack := rest }) :
    ∃ h', Wr h h' a (RoadKit.slotOf Z O n d) v' ∧ h'.size = h.size ∧ Fld Z h' a O n d v' ∧ Wk p l e R s m args below meth c Z a0 EL n0 own nw st vm0 h' g' cells slots := by
  obtain ⟨T, locs, k0, X, eT, hS, hk, hZ, hown, N, hnw, hE, hC, -, pre⟩ := w
  obtain ⟨T', h', X', e', W, st'⟩ := RoadKit.putFN X hx hZ hown w1 via eT F E L wi hty hn hf hg hs hd
  exact ⟨h', W, W.size, F.same W, T', _, k0, X', e', hS, by rw [W.size]; exact hk, hZ, hown, Fr.snoc X' N na, hnw, hE, hC.trans (CHr.wr W sf hC.1), hx, fun t q => pre t (st' t (hg' ▸ q))⟩
theorem Wk.stC (w : Wk p l e R s m args below meth c Z a0 EL n0 own nw st vm0 h g cells slots) (hx : p.tables.exec = Jvm.exec) {a : Addr} {k : ClassId} {z : Int32} {vs : List Value} {dv : Value} (V : Arv Z h a k .char z vs dv) {j x : Int32} (i : Nat) (hj : j.toNatClampNeg = i) (hi : i < vs.length) (hin : ¬ j < 0 ∧ j < z)
    (hg : g.method = m) {rest : List Value} (hs : g.stack = .int x :: .int j :: .ref a :: rest) (hd : decode c.code g.pc = .ok (.castore, 1)) (na : n0 ≤ a) (g' : JFrame) (hg' : g' = { g with pc := g.pc + 1, stack := rest }) :
    ∃ h', Wr h h' a j.toNatClampNeg (.int (nar .char x)) ∧ h'.size = h.size ∧ Arv Z h' a k .char z (vs.set i (.int (nar .char x))) dv ∧ Wk p l e R s m args below meth c Z a0 EL n0 own nw st vm0 h' g' cells slots := by
  obtain ⟨T, locs, k0, X, eT, hS, hk, hZ, hown, N, hnw, hE, hC, -, pre⟩ := w
  obtain ⟨cl, A, q, S, M, H, U⟩ := id V
  obtain ⟨T', h', X', e', W, st'⟩ := RoadKit.stC X hx hZ eT A (inb_of S hin) hg hs hd
  exact ⟨h', W, W.size, Arv.set A q S M H U (fits_nar_char _) W i hj hi, T', _, k0, X', e', hS, by rw [W.size]; exact hk, hZ, hown, Fr.snoc X' N na, hnw, hE, hC.trans (CHr.wr W (Safe.arv (State.Warmed39.alike (s := Z) hZ) V (by decide)) hC.1), hx, fun t q => pre t (st' t (hg' ▸ q))⟩
theorem Wk.stI (w : Wk p l e R s m args below meth c Z a0 EL n0 own nw st vm0 h g cells slots) (hx : p.tables.exec = Jvm.exec) {a : Addr} {k : ClassId} {z : Int32} {vs : List Value} {dv : Value} (V : Arv Z h a k .int z vs dv) {j x : Int32} (i : Nat) (hj : j.toNatClampNeg = i) (hi : i < vs.length) (hin : ¬ j < 0 ∧ j < z)
    (hg : g.method = m) {rest : List Value} (hs : g.stack = .int x :: .int j :: .ref a :: rest) (hd : decode c.code g.pc = .ok (.iastore, 1)) (na : n0 ≤ a) (g' : JFrame) (hg' : g' = { g with pc := g.pc + 1, stack := rest }) :
    ∃ h', Wr h h' a j.toNatClampNeg (.int x) ∧ h'.size = h.size ∧ Arv Z h' a k .int z (vs.set i (.int x)) dv ∧ Wk p l e R s m args below meth c Z a0 EL n0 own nw st vm0 h' g' cells slots := by
  obtain ⟨T, locs, k0, X, eT, hS, hk, hZ, hown, N, hnw, hE, hC, -, pre⟩ := w
  obtain ⟨cl, A, q, S, M, H, U⟩ := id V
  obtain ⟨T', h', X', e', W, st'⟩ := RoadKit.stI X hx hZ eT A (inb_of S hin) hg hs hd
  exact ⟨h', W, W.size, Arv.set A q S M H U rfl W i hj hi, T', _, k0, X', e', hS, by rw [W.size]; exact hk, hZ, hown, Fr.snoc X' N na, hnw, hE, hC.trans (CHr.wr W (Safe.arv (State.Warmed39.alike (s := Z) hZ) V (by decide)) hC.1), hx, fun t q => pre t (st' t (hg' ▸ q))⟩
theorem Wk.stB (w : Wk p l e R s m args below meth c Z a0 EL n0 own nw st vm0 h g cells slots) (hx : p.tables.exec = Jvm.exec) {a : Addr} {k : ClassId} {z : Int32} {vs : List Value} {dv : Value} (V : Arv Z h a k .byte z vs dv) (sf : Safe Z EL vm0 h a) {j x : Int32} (i : Nat) (hj : j.toNatClampNeg = i) (hi : i < vs.length) (hin : ¬ j < 0 ∧ j < z)
    (hg : g.method = m) {rest : List Value} (hs : g.stack = .int x :: .int j :: .ref a :: rest) (hd : decode c.code g.pc = .ok (.bastore, 1)) (na : n0 ≤ a) (g' : JFrame) (hg' : g' = { g with pc := g.pc + 1, stack := rest }) :
    ∃ h', Wr h h' a j.toNatClampNeg (.int x.toInt8.toInt32) ∧ h'.size = h.size ∧ Arv Z h' a k .byte z (vs.set i (.int x.toInt8.toInt32)) dv ∧ Wk p l e R s m args below meth c Z a0 EL n0 own nw st vm0 h' g' cells slots := by
  obtain ⟨T, locs, k0, X, eT, hS, hk, hZ, hown, N, hnw, hE, hC, -, pre⟩ := w
  obtain ⟨cl, A, q, S, M, H, U⟩ := id V
  obtain ⟨T', h', X', e', W, st'⟩ := RoadKit.stB X hx hZ eT A (inb_of S hin) hg hs hd
  exact ⟨h', W, W.size, Arv.set A q S M H U (fits_nar_byte _) W i hj hi, T', _, k0, X', e', hS, by rw [W.size]; exact hk, hZ, hown, Fr.snoc X' N na, hnw, hE, hC.trans (CHr.wr W sf hC.1), hx, fun t q => pre t (st' t (hg' ▸ q))⟩
/-! single steps that read an array -/
section Reads
variable {T : State} {locs : List Loc} {target : State}
theorem caV (X : Stand p l e R s m args below meth c T locs cells slots) (hx : p.tables.exec = Jvm.exec) (eT : T.heap = h) (hZ : Z.Warmed39 s.vm) {a : Addr} {k : ClassId} {z : Int32} {vs : List Value} {dv v : Value} (V : Arv Z h a k .char z vs dv) {j : Int32} (hin : ¬ j < 0 ∧ j < z) (hv : vs.getD j.toNatClampNeg dv = v)
    (hg : g.method = m) {rest : List Value} (hs : g.stack = .int j :: .ref a :: rest) (hd : decode c.code g.pc = .ok (.caload, 1)) (hr : Steps p.tables e below (T.setTop { g with pc := g.pc + 1, stack := v :: rest }) target) : Steps p.tables e below (T.setTop g) target := by
  obtain ⟨cl, A, q, S, M, H, U⟩ := V
  exact X.caload hx (by rw [eT]; exact A.1) (State.isArrayOf_alike hZ.alike A.2.1) A.2.2 (inb_of S hin) (H.at (inb_of S hin) hv) hg hs hd _ hr
theorem iaV (X : Stand p l e R s m args below meth c T locs cells slots) (hx : p.tables.exec = Jvm.exec) (eT : T.heap = h) (hZ : Z.Warmed39 s.vm) {a : Addr} {k : ClassId} {z : Int32} {vs : List Value} {dv v : Value} (V : Arv Z h a k .int z vs dv) {j : Int32} (hin : ¬ j < 0 ∧ j < z) (hv : vs.getD j.toNatClampNeg dv = v)
    (hg : g.method = m) {rest : List Value} (hs : g.stack = .int j :: .ref a :: rest) (hd : decode c.code g.pc = .ok (.iaload, 1)) (hr : Steps p.tables e below (T.setTop { g with pc := g.pc + 1, stack := v :: rest }) target) : Steps p.tables e below (T.setTop g) target := by
  obtain ⟨cl, A, q, S, M, H, U⟩ := V
  exact X.iaload hx (by rw [eT]; exact A.1) (State.isArrayOf_alike hZ.alike A.2.1) A.2.2 (inb_of S hin) (H.at (inb_of S hin) hv) hg hs hd _ hr
theorem baV (X : Stand p l e R s m args below meth c T locs cells slots) (hx : p.tables.exec = Jvm.exec) (eT : T.heap = h) (hZ : Z.Warmed39 s.vm) {a : Addr} {k : ClassId} {z : Int32} {vs : List Value} {dv v : Value} (V : Arv Z h a k .byte z vs dv) {j : Int32} (hin : ¬ j < 0 ∧ j < z) (hv : vs.getD j.toNatClampNeg dv = v)
    (hg : g.method = m) {rest : List Value} (hs : g.stack = .int j :: .ref a :: rest) (hd : decode c.code g.pc = .ok (.baload, 1)) (hr : Steps p.tables e below (T.setTop { g with pc := g.pc + 1, stack := v :: rest }) target) : Steps p.tables e below (T.setTop g) target := by
  obtain ⟨cl, A, q, S, M, H, U⟩ := V
  exact X.baloadBytes hx (by rw [eT]; exact A.1) (State.isArrayOf_alike hZ.alike A.2.1) A.2.2 (inb_of S hin) (H.at (inb_of S hin) hv) hg hs hd _ hr
theorem aaV (X : Stand p l e R s m args below meth c T locs cells slots) (hx : p.tables.exec = Jvm.exec) (eT : T.heap = h) (hZ : Z.Warmed39 s.vm) {a : Addr} {k : ClassId} {z : Int32} {vs : List Value} {dv v : Value} {ty : FieldType} (V : Arv Z h a k ty z vs dv) (hty : ty.isReference = true) {j : Int32} (hin : ¬ j < 0 ∧ j < z) (hv : vs.getD j.toNatClampNeg dv = v)
    (hg : g.method = m) {rest : List Value} (hs : g.stack = .int j :: .ref a :: rest) (hd : decode c.code g.pc = .ok (.aaload, 1)) (hr : Steps p.tables e below (T.setTop { g with pc := g.pc + 1, stack := v :: rest }) target) : Steps p.tables e below (T.setTop g) target := by
  obtain ⟨cl, A, q, S, M, H, U⟩ := V
  exact X.aaload hx (by rw [eT]; exact A.1) (State.isArrayOf_alike hZ.alike A.2.1) hty A.2.2 (inb_of S hin) (H.at (inb_of S hin) hv) hg hs hd _ hr
theorem alenV (X : Stand p l e R s m args below meth c T locs cells slots) (hx : p.tables.exec = Jvm.exec) (eT : T.heap = h) (hZ : Z.Warmed39 s.vm) {a : Addr} {k : ClassId} {z : Int32} {vs : List Value} {dv : Value} {ty : FieldType} (V : Arv Z h a k ty z vs dv)
    (hg : g.method = m) {rest : List Value} (hs : g.stack = .ref a :: rest) (hd : decode c.code g.pc = .ok (.arraylength, 1)) (hr : Steps p.tables e below (T.setTop { g with pc := g.pc + 1, stack := .int z :: rest }) target) : Steps p.tables e below (T.setTop g) target := by
  obtain ⟨cl, A, q, S, M, H, U⟩ := V
  exact X.arraylength hx (by rw [eT]; exact A.1) (State.isArrayOf_alike hZ.alike A.2.1) hg hs hd _ (by rw [len_of S M]; exact hr)
end Reads
/-! calls -/
/-- who pays a call: nothing interned -/
def Pay (l : Launch) (R : Room) (p : Program) (e : Env) (below : List Frame) (s : State) (args : Array Value) (y : MethodName) (W : Nat) (as' : List Value) (h : Heap) (kc ks n0 : Nat) (wr : List Addr) (Q : Option Value → Heap → Prop) : Prop :=
  Back l R p e below s args y 3 W (fun P a => a = as'.toArray ∧ P.U.heap = h ∧ P.cells + kc ≤ R.cells ∧ P.slots + ks ≤ R.slots) (fun P _ v B => ∃ L, (Q v B.U.heap ∧ Keep h B.U.heap wr ∧ Fr n0 L) ∧ B.locs = P.locs ++ L ∧ B.cells = P.cells + kc ∧ B.slots = P.slots + ks)
/-- a contract: nothing interned -/
def NMet (l : Launch) (Z : State) (y : MethodName) (bytes : ByteArray) (maxL : Nat) (ret : Option FieldType) (ws : List Jvm.Cond) (rm : Room) (as' : List Value) (h : Heap) (n0 : Nat) (wr : List Addr) (Q : Option Value → Heap → Prop) : Prop :=
  MetFree l y (head1 (Jvm.Cond.code y bytes maxL ret :: ws) rm) (fun a U => a = as'.toArray ∧ Z.Warmed39 U.vm ∧ U.heap = h) (fun _ _ _ _ _ => True) (fun _ U o U' => ∃ v L, o = .returned v ∧ (Q v U'.heap ∧ Keep h U'.heap wr ∧ Fr n0 L) ∧ FrameEnd U o U' L rm.cells rm.slots)
theorem NMet.pay {y : MethodName} {bytes : ByteArray} {maxL : Nat} {ret : Option FieldType} {rm : Room} {as' : List Value} {wr : List Addr} {Q : Option Value → Heap → Prop} {W : Nat} (M : NMet l Z y bytes maxL ret [] rm as' h n0 wr Q) (hZ : Z.Warmed39 s.vm) (wc : (Cond.code y bytes maxL ret).before a0 Z = true) (wz : (Cond.initialized y.cls).before a0 Z = true) (hf : rm.frames + 1 ≤ R.frames) (hl : W + (maxL + 11) + rm.locals ≤ R.locals) :
    Pay l R p e below s args y W as' h rm.cells rm.slots n0 wr Q := backOf (a0 := a0) (Q := fun v h' L => Q v h' ∧ Keep h h' wr ∧ Fr n0 L) M hZ wc wz hf hl
theorem Wk.callS (w : Wk p l e R s m args below meth c Z a0 EL n0 own nw st vm0 h g cells slots) (hx : p.tables.exec = Jvm.exec) {y : MethodName} {bytes : ByteArray} {maxL : Nat} {ret : Option FieldType} {index W kc ks : Nat} {as' : List Value} {wr : List Addr} {Q : Option Value → Heap → Prop}
    (w1 : (Cond.methodLink own index y).before a0 Z = true) (w2 : (Cond.static y).before a0 Z = true) (w3 : (Cond.initialized y.cls).before a0 Z = true) (w4 : (Cond.code y bytes maxL ret).before a0 Z = true) (hy : y.cls ≠ "java/lang/invoke/MethodHandle" ∧ y.cls ≠ "java/lang/invoke/VarHandle")
    (P : Pay l R p e below (s.setVm vm0) args y W as' h kc ks n0 wr Q) (hg : g.method = m) (hsize : g.locals.size = c.maxLocals) (rest : List Value) (hlen : ∀ sig, parseMethodDescriptor y.desc = some sig → as'.length = sig.parameters.length) (hstack : g.stack = as'.reverse ++ rest) (hW : 2 * g.monitorRoom + (rest.map fun v => v.category).sum ≤ W)
    (hd : decode c.code g.pc = .ok (.invokestatic index, 3)) (hc : cells + kc ≤ R.cells) (hl : slots + ks ≤ R.slots) (sf : ∀ x ∈ wr, Safe Z EL vm0 h x) (g' : Option Value → JFrame) (hg' : ∀ v, g' v = { g with pc := g.pc + 3, stack := v.toList ++ rest }) :
    ∃ v h', Q v h' ∧ Keep h h' wr ∧ h.size ≤ h'.size ∧ Wk p l e R s m args below meth c Z a0 EL n0 own nw st vm0 h' (g' v) (cells + kc) (slots + ks) := by
  obtain ⟨T, locs, k0, X, eT, hS, hk, hZ, hown, N, hnw, hE, hC, -, pre⟩ := w
  have hZ' : Z.Warmed39 (s.setVm vm0).vm := hZ
  obtain ⟨v, _, ⟨T', L', k', n'⟩, -, X', ⟨L, ⟨hQ, hK, hN⟩, l1, l2, l3⟩, st'⟩ := Jvm.LawKit.callS X hx (y := y) hown (mvT hZ' w1) (mvT hZ' w2) (mvT hZ' w3) (mvT hZ' w4) hy P hg hsize hlen hstack hW hd (fun _ _ => ⟨rfl, eT, hc, hl⟩)
  dsimp only [Pt.U, Pt.locs, Pt.cells, Pt.slots] at X' l1 l2 l3 st' hQ hK
  subst l1 l2 l3
  exact ⟨v, T'.heap, hQ, hK, hK.1, T', _, k0, X', rfl, hS, Nat.le_trans hk hK.1, hZ, hown, Fr.app N hN, hnw, hE, hC.trans (CHr.keep hK sf hC.1), hx, fun t k => pre t (st' t (hg' v ▸ k))⟩
theorem Wk.callI (w : Wk p l e R s m args below meth c Z a0 EL n0 own nw st vm0 h g cells slots) (hx : p.tables.exec = Jvm.exec) {y : MethodName} {bytes : ByteArray} {maxL : Nat} {index W kc ks : Nat} {a : Addr} {as' : List Value} {wr : List Addr} {Q : Option Value → Heap → Prop}
    (hy1 : y.name = "<init>") (w1 : (Cond.methodLink own index y).before a0 Z = true) (w2 : (Cond.instanceMethod y).before a0 Z = true) (w4 : (Cond.code y bytes maxL none).before a0 Z = true) (hy : y.cls ≠ "java/lang/invoke/MethodHandle" ∧ y.cls ≠ "java/lang/invoke/VarHandle")
    (P : Pay l R p e below (s.setVm vm0) args y W (.ref a :: as') h kc ks n0 wr Q) (hg : g.method = m) (hsize : g.locals.size = c.maxLocals) (rest : List Value) (hlen : ∀ sig, parseMethodDescriptor y.desc = some sig → as'.length = sig.parameters.length) (hstack : g.stack = as'.reverse ++ .ref a :: rest) (hW : 2 * g.monitorRoom + (rest.map fun v => v.category).sum ≤ W)
    (hd : decode c.code g.pc = .ok (.invokespecial index, 3)) (hc : cells + kc ≤ R.cells) (hl : slots + ks ≤ R.slots) (sf : ∀ x ∈ wr, Safe Z EL vm0 h x) (g' : Option Value → JFrame) (hg' : ∀ v, g' v = { g with pc := g.pc + 3, stack := v.toList ++ rest }) :
    ∃ v h', Q v h' ∧ Keep h h' wr ∧ h.size ≤ h'.size ∧ Wk p l e R s m args below meth c Z a0 EL n0 own nw st vm0 h' (g' v) (cells + kc) (slots + ks) := by
  obtain ⟨T, locs, k0, X, eT, hS, hk, hZ, hown, N, hnw, hE, hC, -, pre⟩ := w
  have hZ' : Z.Warmed39 (s.setVm vm0).vm := hZ
  obtain ⟨v, _, ⟨T', L', k', n'⟩, -, X', ⟨L, ⟨hQ, hK, hN⟩, l1, l2, l3⟩, st'⟩ := X.specialBack hx (y := y) hy1 hown (mvT hZ' w1) (mvT hZ' w2) (mvT hZ' w4) hy P hg hsize (Steps.refl _) hlen hstack hW hd (fun _ _ => ⟨rfl, eT, hc, hl⟩)
  dsimp only [Pt.U, Pt.locs, Pt.cells, Pt.slots] at X' l1 l2 l3 st' hQ hK
  subst l1 l2 l3
  exact ⟨v, T'.heap, hQ, hK, hK.1, T', _, k0, X', rfl, hS, Nat.le_trans hk hK.1, hZ, hown, Fr.app N hN, hnw, hE, hC.trans (CHr.keep hK sf hC.1), hx, fun t k => pre t (st'.trans (hg' v ▸ k))⟩
theorem Wk.callV (w : Wk p l e R s m args below meth c Z a0 EL n0 own nw st vm0 h g cells slots) (hx : p.tables.exec = Jvm.exec) {C : String} {y z : MethodName} {index W kc ks : Nat} {a : Addr} {as' : List Value} {wr : List Addr} {Q : Option Value → Heap → Prop}
    (w1 : (Cond.methodLink own index y).before a0 Z = true) (w2 : (Cond.declares y).before a0 Z = true) (w3 : (Cond.selects C y z).before a0 Z = true) (w4 : (Cond.instanceMethod z).before a0 Z = true) (nf : NotFace (s.setVm vm0) y) (hy : y.cls ≠ "java/lang/invoke/MethodHandle" ∧ y.cls ≠ "java/lang/invoke/VarHandle")
    (P : Pay l R p e below (s.setVm vm0) args z W (.ref a :: as') h kc ks n0 wr Q) (E : Exa Z h a C) (hg : g.method = m) (hsize : g.locals.size = c.maxLocals) (rest : List Value) (hlen : ∀ sig, parseMethodDescriptor y.desc = some sig → as'.length = sig.parameters.length) (hstack : g.stack = as'.reverse ++ .ref a :: rest) (hW : 2 * g.monitorRoom + (rest.map fun v => v.category).sum ≤ W)
    (hd : decode c.code g.pc = .ok (.invokevirtual index, 3)) (hc : cells + kc ≤ R.cells) (hl : slots + ks ≤ R.slots) (sf : ∀ x ∈ wr, Safe Z EL vm0 h x) (g' : Option Value → JFrame) (hg' : ∀ v, g' v = { g with pc := g.pc + 3, stack := v.toList ++ rest }) :
    ∃ v h', Q v h' ∧ Keep h h' wr ∧ h.size ≤ h'.size ∧ Wk p l e R s m args below meth c Z a0 EL n0 own nw st vm0 h' (g' v) (cells + kc) (slots + ks) := by
  obtain ⟨T, locs, k0, X, eT, hS, hk, hZ, hown, N, hnw, hE, hC, -, pre⟩ := w
  have hZ' : Z.Warmed39 (s.setVm vm0).vm := hZ
  obtain ⟨cB, kB, q1, -, q3⟩ := isOf (s := s.setVm vm0) hZ' eT E
  obtain ⟨v, _, ⟨T', L', k', n'⟩, -, X', ⟨L, ⟨hQ, hK, hN⟩, l1, l2, l3⟩, st'⟩ := X.virtualBack hx (y := y) (z := z) hown (mvT hZ' w1) (mvT hZ' w2) nf (mvT hZ' w3) (mvT hZ' w4) hy P q1 q3 hg hsize (Steps.refl _) hlen hstack hW hd (fun _ _ => ⟨rfl, eT, hc, hl⟩)
  dsimp only [Pt.U, Pt.locs, Pt.cells, Pt.slots] at X' l1 l2 l3 st' hQ hK
  subst l1 l2 l3
  exact ⟨v, T'.heap, hQ, hK, hK.1, T', _, k0, X', rfl, hS, Nat.le_trans hk hK.1, hZ, hown, Fr.app N hN, hnw, hE, hC.trans (CHr.keep hK sf hC.1), hx, fun t k => pre t (st'.trans (hg' v ▸ k))⟩
theorem sfNil {x : Addr} : x ∈ ([] : List Addr) → Safe Z EL vm0 h x := fun q => nomatch q
theorem sfOne {a : Addr} (sf : Safe Z EL vm0 h a) : ∀ x ∈ [a], Safe Z EL vm0 h x := fun x q => by cases List.mem_singleton.mp q; exact sf
theorem Wk.nf (w : Wk p l e R s m args below meth c Z a0 EL n0 own nw st vm0 h g cells slots) {C : String} {y : MethodName} (w3 : (Cond.selects C y y).before a0 Z = true) : NotFace (s.setVm vm0) y := notFace_of_selects (args := #[]) (mvT (s := s.setVm vm0) w.hZ w3)
/-! the end of a body -/
theorem Wk.out (w : Wk p l e R s m args below meth c Z a0 EL n0 own nw st vm0 h g cells slots) {v : Option Value} (hv : meth.sig.returnType = none → v = none) (hlk : meth.locks = false)
    (hret : ∀ {T : State} {locs : List Loc} {fs : List Frame}, Stand p l e R (s.setVm vm0) m args below meth c T locs cells slots → (∀ (f : JFrame) (acts : List Action), f.method = m → f.locked = none → f.entered = [] → (doReturn e (T.setTop f) acts v).1 = T.setFrames fs) → Steps p.tables e below (T.setTop g) (T.setFrames fs)) :
    ∃ s₂ L, Steps p.tables e below st s₂ ∧ s₂.status = .running ∧ Ended s₂ below (.returned v) ∧ s₂.heap = h ∧ Fr n0 L ∧ (nw = true → FrameEnd s (.returned v) s₂ L cells slots) ∧ ReturnedEndW s (.returned v) s₂ L cells slots ∧ CHr Z EL s.vm s.heap s₂.vm s₂.heap := by
  obtain ⟨T, locs, k0, X, eT, hS, hk, hZ, hown, N, hnw, hE, hC, hx, pre⟩ := w
  subst eT
  obtain ⟨fs, hr, h1, h2, hW, hs⟩ := X.leave hv hlk
  obtain ⟨b1, b2, b3⟩ := hS.ended (U := T.setFrames fs) hW hk hs
  refine ⟨T.setFrames fs, locs, pre _ (hret X hr), h1, h2, rfl, N, fun q => ?_, ⟨⟨v, rfl⟩, b1, b2, b3⟩, hC.trans (show CHr Z EL vm0 T.heap (T.setFrames fs).vm (T.setFrames fs).heap from CHv.at (T := T) X hZ hE hC.1)⟩
  have e0 := hnw q
  subst e0
  exact ⟨⟨v, rfl⟩, hW, hs⟩
theorem Wk.endN (w : Wk p l e R s m args below meth c Z a0 EL n0 own true st vm0 h g cells slots) {v : Option Value} {Q : Option Value → Heap → Prop} {wr : List Addr} {h0 : Heap} {kc ks : Nat} (hv : meth.sig.returnType = none → v = none) (hlk : meth.locks = false)
    (hret : ∀ {T : State} {locs : List Loc} {fs : List Frame}, Stand p l e R (s.setVm vm0) m args below meth c T locs cells slots → (∀ (f : JFrame) (acts : List Action), f.method = m → f.locked = none → f.entered = [] → (doReturn e (T.setTop f) acts v).1 = T.setFrames fs) → Steps p.tables e below (T.setTop g) (T.setFrames fs))
    (hc : cells ≤ kc) (hl : slots ≤ ks) (hQ : Q v h) (hK : Keep h0 h wr) :
    ∃ s₂ o, Steps p.tables e below st s₂ ∧ s₂.status = .running ∧ Ended s₂ below o ∧ ∃ v L, o = .returned v ∧ (Q v s₂.heap ∧ Keep h0 s₂.heap wr ∧ Fr n0 L) ∧ FrameEnd s o s₂ L kc ks := by
  obtain ⟨s₂, L, h1, h2, h3, h4, h5, h6, -, -⟩ := w.out hv hlk hret
  have F := h6 rfl
  exact ⟨s₂, _, h1, h2, h3, v, L, rfl, ⟨h4 ▸ hQ, h4 ▸ hK, h5⟩, F.1, F.2.1, F.2.2.mono hc hl⟩
end OwnKit
end Jvm.Pilot.@@N@@
namespace Jvm.Pilot.@@N@@
open Jvm Jvm.ClassFile Sem Op Lib Jvm.Free Jvm.Stand Jvm.LawKit Jvm.RoadKit Bundle Jvm.Pilot.@@N@@.Jvm.D
section OwnWide
variable {p : Program} {l : Launch} {e : Env} {R : Room} {s : State} {m : MethodId} {args : Array Value} {below : List Frame} {meth : Method} {c : Code} {Z : State} {a0 : Array Value} {EL : List (String × Nat)} {n0 : Nat} {own : String} {nw : Bool} {st : State} {vm0 : Vm} {h : Heap} {g g' : JFrame} {cells slots : Nat}
theorem chs {vm1 : Vm} {h' : Heap} (A : CHr Z EL vm0 h vm1 h') {x : Nat} (hx : h.size > x) (S : Safe Z EL vm0 h x) : Safe Z EL vm1 h' x := A.safe hx S
/-- who pays a call that may intern -/
def PayW (l : Launch) (R : Room) (p : Program) (e : Env) (below : List Frame) (s : State) (args : Array Value) (y : MethodName) (W : Nat) (as' : List Value) (h : Heap) (kc ks n0 : Nat) (wr : List Addr) (Q : Option Value → Heap → Prop) (Z : State) (EL : List (String × Nat)) (vm0 : Vm) : Prop :=
  BackS l R p e below s args y 3 W (fun P a => a = as'.toArray ∧ P.U.heap = h ∧ P.cells + kc ≤ R.cells ∧ P.slots + ks ≤ R.slots) (fun P _ v B => ∃ L, (Q v B.U.heap ∧ Keep h B.U.heap wr ∧ Fr n0 L) ∧ B.locs = P.locs ++ L ∧ B.cells = P.cells + kc ∧ B.slots = P.slots + ks ∧ CHr Z EL vm0 h B.U.vm B.U.heap)
/-- a contract of a body that may intern -/
def WMet (l : Launch) (Z : State) (EL : List (String × Nat)) (y : MethodName) (bytes : ByteArray) (maxL : Nat) (ret : Option FieldType) (ws : List Jvm.Cond) (rm : Room) (as' : List Value) (h : Heap) (n0 : Nat) (sf : List Addr) (wr : List Addr) (Q : Option Value → Heap → Prop) : Prop :=
  MetFree l y (head1 (Jvm.Cond.code y bytes maxL ret :: ws) rm) (fun a U => a = as'.toArray ∧ Z.Warmed39 U.vm ∧ U.heap = h ∧ CHv Z EL U.vm h ∧ ∀ x ∈ sf, Safe Z EL U.vm h x) (fun _ _ _ _ _ => True) (fun _ U o U' => ∃ v L, o = .returned v ∧ (Q v U'.heap ∧ Keep h U'.heap wr ∧ Fr n0 L) ∧ CHr Z EL U.vm U.heap U'.vm U'.heap ∧ ReturnedEndW U o U' L rm.cells rm.slots)
theorem Wk.ew (w : Wk p l e R s m args below meth c Z a0 EL n0 own nw st vm0 h g cells slots) : EW Z a0 EL := by
  obtain ⟨T, locs, k0, X, eT, hS, hk, hZ, hown, N, hnw, hE, hC, hx, pre⟩ := w; exact hE
theorem WMet.pay {y : MethodName} {bytes : ByteArray} {maxL : Nat} {ret : Option FieldType} {rm : Room} {as' : List Value} {sf wr : List Addr} {Q : Option Value → Heap → Prop} {W : Nat} (M : WMet l Z EL y bytes maxL ret [] rm as' h n0 sf wr Q)
    (hw : Wk p l e R s m args below meth c Z a0 EL n0 own nw st vm0 h g cells slots) (wc : (Cond.code y bytes maxL ret).before a0 Z = true) (wz : (Cond.initialized y.cls).before a0 Z = true) (hf : rm.frames + 1 ≤ R.frames) (hl : W + (maxL + 11) + rm.locals ≤ R.locals) (hsf : ∀ x ∈ sf, h.size > x ∧ Safe Z EL vm0 h x) :
    PayW l R p e below (s.setVm vm0) args y W as' h rm.cells rm.slots n0 wr Q Z EL vm0 := by
  have hZ : Z.Warmed39 vm0 := hw.hZ
  have hEL := hw.ew
  have H := hw.chv
  refine BackS.of_freeW (bytes := bytes) (maxL := maxL) (ret := ret) (E := fun _ first o t L k n => k = rm.cells ∧ n = rm.slots ∧ (∃ v, o = .returned v ∧ (Q v t.heap ∧ Keep h t.heap wr ∧ Fr n0 L)) ∧ CHr Z EL first.vm first.heap t.vm t.heap) M hf hl ?_ ?_ ?_ ?_ ?_
  · intro m meth c A a Y hp
    have hU : Z.Warmed39 A.U.vm := wtrans (s := s.setVm vm0) hZ Y.warmed
    exact ⟨by show (Cond.and _ .tt).before a A.U = true; rw [Cond.before_and, mv hU wc]; rfl, mv hU wc, mv hU wz, hp.2.2.1, hp.2.2.2⟩
  · intro m meth c A a g mk Y hp
    have C := CHv.at Y hZ hEL H
    exact ⟨hp.1, wtrans (s := s.setVm vm0) hZ Y.warmed, hp.2.1, C.1, fun x hx => C.safe (hsf x hx).1 (hsf x hx).2⟩
  · exact fun _ _ _ _ _ _ _ _ _ => trivial
  · exact fun _ _ _ _ ⟨v, L, h1, h2, h3, h4⟩ => ⟨L, _, _, h4, rfl, rfl, ⟨v, h1, h2⟩, h3⟩
  · intro m meth c A a g mk v t L k n Y hp _ _ q
    obtain ⟨e1, e2, ⟨v', e3, e4⟩, e5⟩ := q
    cases e3; subst e1 e2
    refine ⟨L, e4, rfl, rfl, rfl, (CHv.at Y hZ hEL H).trans ?_⟩
    rw [← hp.2.1]; exact e5
theorem Wk.callSW (w : Wk p l e R s m args below meth c Z a0 EL n0 own false st vm0 h g cells slots) (hx : p.tables.exec = Jvm.exec) {y : MethodName} {bytes : ByteArray} {maxL : Nat} {ret : Option FieldType} {index W kc ks : Nat} {as' : List Value} {wr : List Addr} {Q : Option Value → Heap → Prop}
    (w1 : (Cond.methodLink own index y).before a0 Z = true) (w2 : (Cond.static y).before a0 Z = true) (w3 : (Cond.initialized y.cls).before a0 Z = true) (w4 : (Cond.code y bytes maxL ret).before a0 Z = true) (hy : y.cls ≠ "java/lang/invoke/MethodHandle" ∧ y.cls ≠ "java/lang/invoke/VarHandle")
    (P : PayW l R p e below (s.setVm vm0) args y W as' h kc ks n0 wr Q Z EL vm0) (hg : g.method = m) (hsize : g.locals.size = c.maxLocals) (rest : List Value) (hlen : ∀ sig, parseMethodDescriptor y.desc = some sig → as'.length = sig.parameters.length) (hstack : g.stack = as'.reverse ++ rest) (hW : 2 * g.monitorRoom + (rest.map fun v => v.category).sum ≤ W)
    (hd : decode c.code g.pc = .ok (.invokestatic index, 3)) (hc : cells + kc ≤ R.cells) (hl : slots + ks ≤ R.slots) (g' : Option Value → JFrame) (hg' : ∀ v, g' v = { g with pc := g.pc + 3, stack := v.toList ++ rest }) :
    ∃ v vm1 h', Q v h' ∧ Keep h h' wr ∧ h.size ≤ h'.size ∧ CHr Z EL vm0 h vm1 h' ∧ Wk p l e R s m args below meth c Z a0 EL n0 own false st vm1 h' (g' v) (cells + kc) (slots + ks) := by
  obtain ⟨T, locs, k0, X, eT, hS, hk, hZ, hown, N, hnw, hE, hC, -, pre⟩ := w
  have hZ' : Z.Warmed39 (s.setVm vm0).vm := hZ
  obtain ⟨v, _, ⟨T', L', k', n'⟩, -, X', hS', hgr, ⟨L, ⟨hQ, hK, hN⟩, l1, l2, l3, hC'⟩, st'⟩ := RoadKit.callSS X hx (y := y) hown (mvT hZ' w1) (mvT hZ' w2) (mvT hZ' w3) (mvT hZ' w4) hy P hg hsize hlen hstack hW hd (fun _ _ => ⟨rfl, eT, hc, hl⟩)
  dsimp only [Pt.U, Pt.locs, Pt.cells, Pt.slots] at X' l1 l2 l3 st' hQ hK hS' hgr hC'
  subst l1 l2 l3
  obtain ⟨X2, S2, Z2, O2⟩ := rebS (own := own) (n1 := T.heap.size) hS (by rw [eT]; exact hk) X' hS' hgr hZ' hown
  exact ⟨v, T'.vm, T'.heap, hQ, hK, hK.1, hC', T', _, T'.heap.size, X2, rfl, S2, Nat.le_refl _, Z2, O2, Fr.app N hN, (fun q => nomatch q), hE, hC.trans hC', hx, fun t k => pre t (st'.trans (hg' v ▸ k))⟩
theorem Wk.callIW (w : Wk p l e R s m args below meth c Z a0 EL n0 own false st vm0 h g cells slots) (hx : p.tables.exec = Jvm.exec) {y : MethodName} {bytes : ByteArray} {maxL : Nat} {index W kc ks : Nat} {a : Addr} {as' : List Value} {wr : List Addr} {Q : Option Value → Heap → Prop}
    (hy1 : y.name = "<init>") (w1 : (Cond.methodLink own index y).before a0 Z = true) (w2 : (Cond.instanceMethod y).before a0 Z = true) (w4 : (Cond.code y bytes maxL none).before a0 Z = true) (hy : y.cls ≠ "java/lang/invoke/MethodHandle" ∧ y.cls ≠ "java/lang/invoke/VarHandle")
    (P : PayW l R p e below (s.setVm vm0) args y W (.ref a :: as') h kc ks n0 wr Q Z EL vm0) (hg : g.method = m) (hsize : g.locals.size = c.maxLocals) (rest : List Value) (hlen : ∀ sig, parseMethodDescriptor y.desc = some sig → as'.length = sig.parameters.length) (hstack : g.stack = as'.reverse ++ .ref a :: rest) (hW : 2 * g.monitorRoom + (rest.map fun v => v.category).sum ≤ W)
    (hd : decode c.code g.pc = .ok (.invokespecial index, 3)) (hc : cells + kc ≤ R.cells) (hl : slots + ks ≤ R.slots) (g' : Option Value → JFrame) (hg' : ∀ v, g' v = { g with pc := g.pc + 3, stack := v.toList ++ rest }) :
    ∃ v vm1 h', Q v h' ∧ Keep h h' wr ∧ h.size ≤ h'.size ∧ CHr Z EL vm0 h vm1 h' ∧ Wk p l e R s m args below meth c Z a0 EL n0 own false st vm1 h' (g' v) (cells + kc) (slots + ks) := by
  obtain ⟨T, locs, k0, X, eT, hS, hk, hZ, hown, N, hnw, hE, hC, -, pre⟩ := w
  have hZ' : Z.Warmed39 (s.setVm vm0).vm := hZ
  obtain ⟨v, _, ⟨T', L', k', n'⟩, -, X', hS', hgr, ⟨L, ⟨hQ, hK, hN⟩, l1, l2, l3, hC'⟩, st'⟩ := X.specialBackS hx (y := y) hy1 hown (mvT hZ' w1) (mvT hZ' w2) (mvT hZ' w4) hy P hg hsize (Steps.refl _) hlen hstack hW hd (fun _ _ => ⟨rfl, eT, hc, hl⟩)
  dsimp only [Pt.U, Pt.locs, Pt.cells, Pt.slots] at X' l1 l2 l3 st' hQ hK hS' hgr hC'
  subst l1 l2 l3
  obtain ⟨X2, S2, Z2, O2⟩ := rebS (own := own) (n1 := T.heap.size) hS (by rw [eT]; exact hk) X' hS' hgr hZ' hown
  exact ⟨v, T'.vm, T'.heap, hQ, hK, hK.1, hC', T', _, T'.heap.size, X2, rfl, S2, Nat.le_refl _, Z2, O2, Fr.app N hN, (fun q => nomatch q), hE, hC.trans hC', hx, fun t k => pre t (st'.trans (hg' v ▸ k))⟩
theorem Wk.callVW (w : Wk p l e R s m args below meth c Z a0 EL n0 own false st vm0 h g cells slots) (hx : p.tables.exec = Jvm.exec) {C : String} {y z : MethodName} {index W kc ks : Nat} {a : Addr} {as' : List Value} {wr : List Addr} {Q : Option Value → Heap → Prop}
    (w1 : (Cond.methodLink own index y).before a0 Z = true) (w2 : (Cond.declares y).before a0 Z = true) (w3 : (Cond.selects C y z).before a0 Z = true) (w4 : (Cond.instanceMethod z).before a0 Z = true) (nf : NotFace (s.setVm vm0) y) (hy : y.cls ≠ "java/lang/invoke/MethodHandle" ∧ y.cls ≠ "java/lang/invoke/VarHandle")
    (P : PayW l R p e below (s.setVm vm0) args z W (.ref a :: as') h kc ks n0 wr Q Z EL vm0) (E : Exa Z h a C) (hg : g.method = m) (hsize : g.locals.size = c.maxLocals) (rest : List Value) (hlen : ∀ sig, parseMethodDescriptor y.desc = some sig → as'.length = sig.parameters.length) (hstack : g.stack = as'.reverse ++ .ref a :: rest) (hW : 2 * g.monitorRoom + (rest.map fun v => v.category).sum ≤ W)
    (hd : decode c.code g.pc = .ok (.invokevirtual index, 3)) (hc : cells + kc ≤ R.cells) (hl : slots + ks ≤ R.slots) (g' : Option Value → JFrame) (hg' : ∀ v, g' v = { g with pc := g.pc + 3, stack := v.toList ++ rest }) :
    ∃ v vm1 h', Q v h' ∧ Keep h h' wr ∧ h.size ≤ h'.size ∧ CHr Z EL vm0 h vm1 h' ∧ Wk p l e R s m args below meth c Z a0 EL n0 own false st vm1 h' (g' v) (cells + kc) (slots + ks) := by
  obtain ⟨T, locs, k0, X, eT, hS, hk, hZ, hown, N, hnw, hE, hC, -, pre⟩ := w
  have hZ' : Z.Warmed39 (s.setVm vm0).vm := hZ
  obtain ⟨cB, kB, q1, -, q3⟩ := isOf (s := s.setVm vm0) hZ' eT E
  obtain ⟨v, _, ⟨T', L', k', n'⟩, -, X', hS', hgr, ⟨L, ⟨hQ, hK, hN⟩, l1, l2, l3, hC'⟩, st'⟩ := X.virtualBackS hx (y := y) (z := z) hown (mvT hZ' w1) (mvT hZ' w2) nf (mvT hZ' w3) (mvT hZ' w4) hy P q1 q3 hg hsize (Steps.refl _) hlen hstack hW hd (fun _ _ => ⟨rfl, eT, hc, hl⟩)
  dsimp only [Pt.U, Pt.locs, Pt.cells, Pt.slots] at X' l1 l2 l3 st' hQ hK hS' hgr hC'
  subst l1 l2 l3
  obtain ⟨X2, S2, Z2, O2⟩ := rebS (own := own) (n1 := T.heap.size) hS (by rw [eT]; exact hk) X' hS' hgr hZ' hown
  exact ⟨v, T'.vm, T'.heap, hQ, hK, hK.1, hC', T', _, T'.heap.size, X2, rfl, S2, Nat.le_refl _, Z2, O2, Fr.app N hN, (fun q => nomatch q), hE, hC.trans hC', hx, fun t k => pre t (st'.trans (hg' v ▸ k))⟩
/-- ldc of a String constant whose text is read -/
theorem Wk.ldcCH (w : Wk p l e R s m args below meth c Z a0 EL n0 own false st vm0 h g cells slots) (hx : p.tables.exec = Jvm.exec) {text : String} {index : Nat} (w1 : (Cond.stringLink own index text).before a0 Z = true) (wS : ∀ a ∈ Bundle.stringAtoms, a.before a0 Z = true) (hmem : (own, index) ∈ EL)
    {vs : List Value} {z : Int32} (ht : (∀ c ∈ text.toList, c.toNat < 256) ∧ text.toList.map (fun c => Value.int (Jvm.Lit.byteI c.toNat.toUInt16)) = vs) (hz : ¬ z < 0) (hl : z.toNatClampNeg = vs.length)
    (hg : g.method = m) (hd : decode c.code g.pc = .ok (.ldc index, 2)) (n : Nat) (hn : 4 * text.toList.length ≤ n) (hbig : n ≤ 536870912) (hc : cells + 2 ≤ R.cells) (hl' : slots + (n + 4) ≤ R.slots) (g' : Addr → JFrame) (hg' : ∀ x, g' x = { g with pc := g.pc + 2, stack := .ref x :: g.stack }) :
    ∃ (a : Nat) (vm1 : Vm) (h' : Heap) (b : Nat) (k : ClassId), Ext h h' ∧ Exa Z h' a "java/lang/String" ∧ Fld Z h' a "java/lang/String" "coder" "B" (.int 0) ∧ Fld Z h' a "java/lang/String" "value" "[B" (.ref b) ∧ Arv Z h' b k .byte z vs (.int 0) ∧ h'.size > a ∧ h'.size > b ∧ CHr Z EL vm0 h vm1 h' ∧ (∀ x : Nat, Safe Z EL vm1 h' x → x ≠ a ∧ x ≠ b) ∧
      Wk p l e R s m args below meth c Z a0 EL n0 own false st vm1 h' (g' a) (cells + 2) (slots + (n + 4)) := by
  obtain ⟨T, locs, k0, X, eT, hS, hk, hZ, hown, N, hnw, hE, hC, -, pre⟩ := w
  obtain ⟨a, T', h', k1, b, k, X', e', E, hS', hk', hZ', hown', q1, q2, q3, q4, q5, q6, q7, -, q8, st'⟩ := RoadKit.ldcCH X hx hZ hown w1 wS eT hS hk hE hmem hC.1 ht hz hl hg hd hn hbig hc hl'
  exact ⟨a, T'.vm, h', b, k, E, q1, q2, q3, q4, q5, q6, q7, q8, T', locs, k1, X', e', hS', hk', hZ', hown', N, (fun q => nomatch q), hE, hC.trans q7, hx, fun t k => pre t (st' t (hg' a ▸ k))⟩
/-- ldc of a String constant, opaque -/
theorem Wk.ldcOH (w : Wk p l e R s m args below meth c Z a0 EL n0 own false st vm0 h g cells slots) (hx : p.tables.exec = Jvm.exec) {text : String} {index : Nat} (w1 : (Cond.stringLink own index text).before a0 Z = true) (wS : ∀ a ∈ Bundle.stringAtoms, a.before a0 Z = true)
    (hg : g.method = m) (hd : decode c.code g.pc = .ok (.ldc index, 2)) (n : Nat) (hn : 4 * text.toList.length ≤ n) (hbig : n ≤ 536870912) (hc : cells + 2 ≤ R.cells) (hl' : slots + (n + 4) ≤ R.slots) (g' : Addr → JFrame) (hg' : ∀ x, g' x = { g with pc := g.pc + 2, stack := .ref x :: g.stack }) :
    ∃ (a : Nat) (vm1 : Vm) (h' : Heap), Ext h h' ∧ CHr Z EL vm0 h vm1 h' ∧ Wk p l e R s m args below meth c Z a0 EL n0 own false st vm1 h' (g' a) (cells + 2) (slots + (n + 4)) := by
  obtain ⟨T, locs, k0, X, eT, hS, hk, hZ, hown, N, hnw, hE, hC, -, pre⟩ := w
  obtain ⟨a, T', h', k1, X', e', E, hS', hk', hZ', hown', q7, -, st'⟩ := RoadKit.ldcOH X hx hZ hown w1 wS eT hS hk hE hC.1 hg hd hn hbig hc hl'
  exact ⟨a, T'.vm, h', E, q7, T', locs, k1, X', e', hS', hk', hZ', hown', N, (fun q => nomatch q), hE, hC.trans q7, hx, fun t k => pre t (st' t (hg' a ▸ k))⟩
theorem Wk.endW (w : Wk p l e R s m args below meth c Z a0 EL n0 own nw st vm0 h g cells slots) {v : Option Value} {Q : Option Value → Heap → Prop} {wr : List Addr} {h0 : Heap} {kc ks : Nat} (hv : meth.sig.returnType = none → v = none) (hlk : meth.locks = false)
    (hret : ∀ {T : State} {locs : List Loc} {fs : List Frame}, Stand p l e R (s.setVm vm0) m args below meth c T locs cells slots → (∀ (f : JFrame) (acts : List Action), f.method = m → f.locked = none → f.entered = [] → (doReturn e (T.setTop f) acts v).1 = T.setFrames fs) → Steps p.tables e below (T.setTop g) (T.setFrames fs))
    (hc : cells ≤ kc) (hl : slots ≤ ks) (hQ : Q v h) (hK : Keep h0 h wr) :
    ∃ s₂ o, Steps p.tables e below st s₂ ∧ s₂.status = .running ∧ Ended s₂ below o ∧ ∃ v L, o = .returned v ∧ (Q v s₂.heap ∧ Keep h0 s₂.heap wr ∧ Fr n0 L) ∧ CHr Z EL s.vm s.heap s₂.vm s₂.heap ∧ ReturnedEndW s o s₂ L kc ks := by
  obtain ⟨s₂, L, h1, h2, h3, h4, h5, -, h6, h7⟩ := w.out hv hlk hret
  exact ⟨s₂, _, h1, h2, h3, v, L, rfl, ⟨h4 ▸ hQ, h4 ▸ hK, h5⟩, h7, h6.1, h6.2.1, h6.2.2.1, h6.2.2.2.mono hc hl⟩
end OwnWide
end Jvm.Pilot.@@N@@
namespace Jvm.Pilot.@@N@@
open Jvm Jvm.ClassFile Sem Op Lib Jvm.Free Jvm.Stand Jvm.LawKit Jvm.RoadKit Bundle Jvm.Pilot.@@N@@.Jvm.D
section OwnStrB
variable {p : Program} {l : Launch} {e : Env} {R : Room} {s : State} {args : Array Value} {below : List Frame} {Z : State} {a0 : Array Value} {n0 : Nat} {h h' : Heap} {W : Nat} {x : Nat} {cs : List Int32} {b : Nat}
theorem up255 {c : Int32} (q : ¬ (255 : Int32) < c) : ¬ (65535 : Int32) < c := fun r => q (by rw [Int32.lt_iff_toInt_lt] at r ⊢; have e1 : (65535 : Int32).toInt = 65535 := rfl; have e2 : (255 : Int32).toInt = 255 := rfl; omega)
/-- the object x is a String of Latin-1 chars cs; it and its bytes lie below b -/
def Str (Z : State) (h : Heap) (x : Nat) (cs : List Int32) (b : Nat) : Prop := ∃ (t : Nat) (kb : ClassId), Exa Z h x "java/lang/String" ∧ Fld Z h x "java/lang/String" "value" "[B" (.ref t) ∧ Fld Z h x "java/lang/String" "coder" "B" (.int 0) ∧ Arv Z h t kb .byte (Int32.ofNat cs.length) ((cs.map (fun c => c.toInt8.toInt32)).map Value.int) (.int 0) ∧ (∀ c ∈ cs, ¬ c < 0 ∧ ¬ (255 : Int32) < c) ∧ cs.length ≤ 4000 ∧ b > x ∧ b > t
theorem Str.exa (F : Str Z h x cs b) : Exa Z h x "java/lang/String" := by obtain ⟨t, kb, E, r⟩ := F; exact E
theorem Str.lt (F : Str Z h x cs b) : b > x := by obtain ⟨t, kb, -, -, -, -, -, -, q, -⟩ := F; exact q
theorem Str.rng (F : Str Z h x cs b) : ∀ c ∈ cs, ¬ c < 0 ∧ ¬ (255 : Int32) < c := by obtain ⟨t, kb, -, -, -, -, q, -⟩ := F; exact q
theorem Str.len (F : Str Z h x cs b) : cs.length ≤ 4000 := by obtain ⟨t, kb, -, -, -, -, -, q, -⟩ := F; exact q
theorem Str.more (F : Str Z h x cs b) {b' : Nat} (q : b ≤ b') : Str Z h x cs b' := by
  obtain ⟨t, kb, E, V, C, K, r2, r3, r4, r5⟩ := F
  exact ⟨t, kb, E, V, C, K, r2, r3, Nat.lt_of_lt_of_le r4 q, Nat.lt_of_lt_of_le r5 q⟩
theorem Str.ext (F : Str Z h x cs b) (X : Ext h h') : Str Z h' x cs b := by
  obtain ⟨t, kb, E, V, C, K, r⟩ := F
  exact ⟨t, kb, E.ext X, V.ext X, C.ext X, K.ext X, r⟩
theorem Str.keep (F : Str Z h x cs b) {ws : List Addr} (X : Keep h h' ws) (q : ∀ y ∈ ws, b ≤ y) : Str Z h' x cs b := by
  obtain ⟨t, kb, E, V, C, K, r2, r3, r4, r5⟩ := F
  have nx : x ∉ ws := fun z => by have := q x z; omega
  have nt : t ∉ ws := fun z => by have := q t z; omega
  exact ⟨t, kb, E.keep X, V.keep X nx, C.keep X nx, K.keep X nt, r2, r3, r4, r5⟩
theorem Str.wr (F : Str Z h x cs b) {a : Addr} {sl : Nat} {v : Value} (X : Wr h h' a sl v) (q : b ≤ a) : Str Z h' x cs b := F.keep (Keep.of_wr X) (fun y hy => by cases List.mem_singleton.mp hy; exact q)
theorem Str.keepO (F : Str Z h x cs b) {y : Nat} (X : Keep h h' [y]) {C : String} {n : Nat} (E : Exa Z h y C) (hC : C ≠ "java/lang/String") (wi : (Jvm.Cond.instantiable C n).before a0 Z = true) : Str Z h' x cs b := by
  obtain ⟨t, kb, E', V, C', K, r2, r3, r4, r5⟩ := F
  have nx : x ∉ [y] := fun z => by cases List.mem_singleton.mp z; exact Exa.ne E E' hC rfl
  have nt : t ∉ [y] := fun z => by cases List.mem_singleton.mp z; exact Exa.neArv E K wi rfl
  exact ⟨t, kb, E'.keep X, V.keep X nx, C'.keep X nx, K.keep X nt, r2, r3, r4, r5⟩
theorem Str.of (E : Exa Z h x "java/lang/String") {t : Addr} {kb : ClassId} {z : Int32} {vs : List Value} (V : Fld Z h x "java/lang/String" "value" "[B" (.ref t)) (C : Fld Z h x "java/lang/String" "coder" "B" (.int 0)) (K : Arv Z h t kb .byte z vs (.int 0)) (hz : z = Int32.ofNat cs.length) (hv : vs = (cs.map (fun c => c.toInt8.toInt32)).map Value.int) (hp : ∀ c ∈ cs, ¬ c < 0 ∧ ¬ (255 : Int32) < c) (hl : cs.length ≤ 4000) (h1 : b > x) (h2 : b > t) : Str Z h x cs b :=
  ⟨t, kb, E, V, C, by subst hz hv; exact K, hp, hl, h1, h2⟩
end OwnStrB
end Jvm.Pilot.@@N@@
namespace Jvm.Pilot.@@N@@
open Jvm Jvm.ClassFile Sem Op Lib Jvm.Free Jvm.Stand Jvm.LawKit Jvm.RoadKit Bundle Jvm.Pilot.@@N@@.Jvm.D
section OwnStr
variable {p : Program} {l : Launch} {e : Env} {R : Room} {s : State} {args : Array Value} {below : List Frame} {Z : State} {a0 : Array Value} {n0 : Nat} {h h' : Heap} {W : Nat}
theorem nar_i2c (x : Int32) : nar .char (x.toUInt32.toUInt16.toUInt32.toInt32) = x.toUInt32.toUInt16.toUInt32.toInt32 := by simp only [nar, UInt32.toUInt32_toInt32, UInt16.toUInt16_toUInt32]
theorem nar_255 (x : Int32) : nar .char (x &&& (255 : Int32)) = x &&& (255 : Int32) := i2c_mask x
theorem and255_rng (x : Int32) : ¬ (x &&& (255 : Int32)) < 0 ∧ ¬ (255 : Int32) < (x &&& (255 : Int32)) := by
  have q := c_and x (255 : Int32) (by decide)
  have e1 : (255 : Int32).toInt = 255 := rfl
  have e2 : (0 : Int32).toInt = 0 := rfl
  simp only [Int32.lt_iff_toInt_lt, e1, e2] at q ⊢
  omega
theorem rng_ite {P : Prop} [Decidable P] {a b : Int32} (h1 : ¬ a < 0 ∧ ¬ (255 : Int32) < a) (h2 : ¬ b < 0 ∧ ¬ (255 : Int32) < b) : ¬ (if P then a else b) < 0 ∧ ¬ (255 : Int32) < (if P then a else b) := by split <;> assumption
theorem nar_rng {x : Int32} (h : ¬ x < 0 ∧ ¬ (255 : Int32) < x) : nar .char x = x := by
  have e : x = x &&& 255 := by
    apply Int32.toInt_inj.mp
    have q := c_mask x 255 8 (by decide) (by decide)
    simp only [Int32.lt_iff_toInt_lt, show (255 : Int32).toInt = 255 from rfl, show (0 : Int32).toInt = 0 from rfl] at h
    rw [q]; omega
  rw [e]; exact nar_255 x
/-- the JDK's statics that the sheet's sets name -/
def SetsOk (Z : State) : Prop := ∃ (G1 : Int32) (G3 : Value), Sta Z Z.heap "java/lang/String" "COMPACT_STRINGS" "Z" (.int G1) ∧ ¬ (G1 = (0 : Int32)) ∧ Sta Z Z.heap "jdk/internal/util/Preconditions" "SIOOBE_FORMATTER" "Ljava/util/function/BiFunction;" G3 ∧ G3.isRef = true
theorem payNew (hG : SetsOk Z) (hZ : Z.Warmed39 s.vm) (hws : ∀ d ∈ StrChars.Road.words, d.before a0 Z = true) (wi : (Jvm.Cond.instantiable "java/lang/String" 4).before a0 Z = true)
    {x b : Nat} {kC : ClassId} {d v0 c0 : Value} {N : Int32} (cs : List Int32) (n : Nat) (hx0 : n0 ≤ x) (E : Exa Z h x "java/lang/String") (V : Fld Z h x "java/lang/String" "value" "[B" v0) (C : Fld Z h x "java/lang/String" "coder" "B" c0) (K : Arv Z h b kC .char N (cs.map Value.int) d) (X0 : Old Z n0 h)
    (hn : cs.length = n) (hN : N = Int32.ofNat n) (l0 : 0 < n) (l2 : n ≤ 4000) (hp : ∀ c ∈ cs, ¬ c < 0 ∧ ¬ (255 : Int32) < c) (hfr : 4 ≤ R.frames) (hlo : W + 65 ≤ R.locals) :
    Pay l R p e below s args (⟨"java/lang/String", "<init>", "([C)V"⟩ : MethodName) W [.ref x, .ref b] h 1 n n0 [x] (fun v h' => v = none ∧ Str Z h' x cs h'.size) := by
  obtain ⟨G1, G3, S1, P1, -, -⟩ := hG
  refine Back.mono (StrChars.Road.backV (n0 := n0) (bs := cs.map (fun c => c.toInt8.toInt32)) hZ hws wi hx0 (by have := X0.1; have := X0.2.1; omega) E V C K (S1.ext X0.2) P1 hn hN l0 l2 hp rfl hfr hlo) (fun P a hp => hp) (fun P a v B hp' hq => ?_)
  obtain ⟨L, ⟨q1, q2, q3, q4, q5, t, kb, q6, q7, q8, q9, q10⟩, r1, r2, r3⟩ := hq
  exact ⟨L, ⟨⟨q1, Str.of q4 q9 q5 q10 (by rw [hN, hn]) rfl hp (by omega) q4.lt q10.lt⟩, q3, q2⟩, r1, r2, r3⟩
end OwnStr
end Jvm.Pilot.@@N@@
namespace Jvm.Pilot.@@N@@
open Jvm Jvm.ClassFile Sem Op Lib Jvm.Free Jvm.Stand Jvm.LawKit Jvm.RoadKit Bundle Jvm.Pilot.@@N@@.Jvm.D
section OwnPay
variable {p : Program} {l : Launch} {e : Env} {R : Room} {s : State} {args : Array Value} {below : List Frame} {Z : State} {a0 : Array Value} {n0 : Nat} {h h' : Heap} {W : Nat} {x : Nat} {cs : List Int32} {b : Nat}
theorem payLen (hG : SetsOk Z) (hZ : Z.Warmed39 s.vm) (hws : ∀ d ∈ StrChars.Road.wordsLen, d.before a0 Z = true) (wi : (Jvm.Cond.instantiable "java/lang/String" 4).before a0 Z = true) (F : Str Z h x cs b) (X0 : Old Z n0 h) (hfr : 2 ≤ R.frames) (hlo : W + 25 ≤ R.locals) :
    Pay l R p e below s args (⟨"java/lang/String", "length", "()I"⟩ : MethodName) W [.ref x] h 0 0 n0 [] (fun v h' => v = some (.int (Int32.ofNat cs.length)) ∧ h = h') := by
  obtain ⟨G1, G3, S1, P1, -, -⟩ := hG
  obtain ⟨t, kb, E, V, C, K, r2, r3, r4, r5⟩ := F
  have r1 := StrChars.Road.codOf (cs := cs) rfl (fun c hc => (r2 c hc).2)
  have r2' : ∀ c ∈ cs, ¬ c < 0 ∧ ¬ (65535 : Int32) < c := fun c hc => ⟨(r2 c hc).1, up255 (r2 c hc).2⟩
  refine Back.mono (StrChars.Road.lenW hZ hws wi E V C K r1 r2' (S1.ext X0.2) P1 r3 hfr hlo) (fun P a hp => hp) (fun P a v B hp hq => ?_)
  obtain ⟨L, ⟨q1, rfl, q3⟩, s1, s2, s3⟩ := hq
  exact ⟨[], ⟨⟨q1, q3.symm⟩, by rw [q3]; exact Keep.refl _ _, Fr.nil _⟩, s1, s2, s3⟩
end OwnPay
end Jvm.Pilot.@@N@@
namespace Jvm.Pilot.@@N@@
open Jvm Jvm.ClassFile Sem Op Lib Jvm.Free Jvm.Stand Jvm.LawKit Jvm.RoadKit Bundle Jvm.Pilot.@@N@@.Jvm.D
theorem de2_0 : decode jdk_42_method_149_code 0 = .ok (.aload_n 0, 1) := by decide +kernel
theorem de2_1 : decode jdk_42_method_149_code 1 = .ok (.invokespecial 1, 3) := by decide +kernel
theorem de2_4 : decode jdk_42_method_149_code 4 = .ok (.iload_n 3, 1) := by decide +kernel
theorem de2_5 : decode jdk_42_method_149_code 5 = .ok (.ifCond .ne 22, 3) := by decide +kernel
theorem de2_8 : decode jdk_42_method_149_code 8 = .ok (.aload_n 0, 1) := by decide +kernel
theorem de2_9 : decode jdk_42_method_149_code 9 = .ok (.ldc 7, 2) := by decide +kernel
theorem de2_11 : decode jdk_42_method_149_code 11 = .ok (.getfield 9, 3) := by decide +kernel
theorem de2_14 : decode jdk_42_method_149_code 14 = .ok (.putfield 9, 3) := by decide +kernel
theorem de2_17 : decode jdk_42_method_149_code 17 = .ok (.aload_n 0, 1) := by decide +kernel
theorem de2_18 : decode jdk_42_method_149_code 18 = .ok (.ldc 7, 2) := by decide +kernel
theorem de2_20 : decode jdk_42_method_149_code 20 = .ok (.getfield 15, 3) := by decide +kernel
theorem de2_23 : decode jdk_42_method_149_code 23 = .ok (.putfield 15, 3) := by decide +kernel
theorem de2_26 : decode jdk_42_method_149_code 26 = .ok (.return_, 1) := by decide +kernel
theorem efe2 (m : MethodId) (x0 : Nat) (x1 : Nat) (x2 : Int32) (x3 : Int32) : entryFrame m #[(.ref x0), (.ref x1), (.int x2), (.int x3), .null] 6 = mkF m 0 #[.val (.ref x0), .val (.ref x1), .val (.int x2), .val (.int x3), .val .null, .unset] [] := by first | rfl | (simp [entryFrame, mkF, argsToLocals, Value.category, maxLocals]; done)
theorem pn_0 : plainFor (⟨"java/lang/String", "<init>", "([CIILjava/lang/Void;)V"⟩ : MethodName) = true := by first | decide +kernel | (apply plainFor_of_name; simp [plainName, overriddenIn]; done)
set_option maxRecDepth 65536 in
set_option maxHeartbeats 40000000 in
theorem rme2 (l : Launch) (Z : State) (a0 : Array Value) (hw : ∀ d ∈ tables_1, d.before a0 Z = true) (hE : EW Z a0 consts_1) (x b : Nat) (h0 : Heap) (n0 : Nat) (Z0 : n0 ≤ h0.size) (gx : n0 ≤ x) (E0 : Exa Z h0 x "java/lang/String") (F01 : Fld Z h0 x "java/lang/String" "value" "[B" .null) (F02 : Fld Z h0 x "java/lang/String" "coder" "B" (.int (0 : Int32))) :
    WMet l Z consts_1 (⟨"java/lang/String", "<init>", "([CIILjava/lang/Void;)V"⟩ : MethodName) jdk_42_method_149_code 6 none [] ({ frames := 1, cells := 4, slots := 8, locals := 12 } : Room) [(.ref x), (.ref b), (.int (0 : Int32)), (.int (0 : Int32)), .null] h0 n0 [x] [x] (fun v h => v = none ∧ Str Z h x [] h.size) := by
  refine MetFree.of_bodySF pn_0 hisR ?_
  intro p e s m args below meth c s₁ Bd hml0 hP hK
  obtain ⟨rfl, hZ, hh, hC, hSf⟩ := hP
  have hx := Bd.exec
  have hby := Bd.bytes
  have hml : c.maxLocals = 6 := hml0
  have hnm := (name_of_methodNamed Bd.named Bd.method).1
  have w0 := Wk.start (a0 := a0) (EL := consts_1) (n0 := n0) (nw := false) Bd hZ hh hE hC (efe2 m x b (0 : Int32) (0 : Int32)) ({ frames := 1, cells := 4, slots := 8, locals := 12 } : Room) rfl
  have K0 : Keep h0 h0 [x] := Keep.refl _ _
  have lt_x := exlt E0
  have hS : ∀ d ∈ Bundle.stringAtoms, d.before a0 Z = true := fun d hd => hw d ((by decide +kernel : ∀ d ∈ Bundle.stringAtoms, d ∈ tables_1) d hd)
  have w1 := w0.pure (mkF m 1 #[.val (.ref x), .val (.ref b), .val (.int (0 : Int32)), .val (.int (0 : Int32)), .val .null, .unset] [(.ref x)]) (fun X eT hZ hown k => by
      show Steps _ _ _ (State.setTop _ (mkF m 0 #[.val (.ref x), .val (.ref b), .val (.int (0 : Int32)), .val (.int (0 : Int32)), .val .null, .unset] [])) _
      refine S.aloadN X.here hx (hb hby de2_0) rfl rfl ?_
      exact k)
  have w2 := w1.same (mkF m 4 #[.val (.ref x), .val (.ref b), .val (.int (0 : Int32)), .val (.int (0 : Int32)), .val .null, .unset] []) (fun X eT hZ hown => initO X hx hZ hown (hw _ (List.mem_of_getElem? (i := 15) rfl)) (hw _ (List.mem_of_getElem? (i := 16) rfl)) (hw _ (List.mem_of_getElem? (i := 17) rfl)) eT (g := (mkF m 1 #[.val (.ref x), .val (.ref b), .val (.int (0 : Int32)), .val (.int (0 : Int32)), .val .null, .unset] [(.ref x)])) rfl (by rw [hml]; rfl) rfl (hb hby de2_1) (by decide) (W := 0) (by show 2 * 0 + _ ≤ _; exact Nat.le_of_eq rfl) (by decide))
  have w3 := w2.pure (mkF m 9 #[.val (.ref x), .val (.ref b), .val (.int (0 : Int32)), .val (.int (0 : Int32)), .val .null, .unset] [(.ref x)]) (fun X eT hZ hown k => by
      show Steps _ _ _ (State.setTop _ (mkF m 4 #[.val (.ref x), .val (.ref b), .val (.int (0 : Int32)), .val (.int (0 : Int32)), .val .null, .unset] [])) _
      refine S.iloadN X.here hx (hb hby de2_4) rfl ?_
      refine S.ifNo X.here hx (hb hby de2_5) (by decide) ?_
      refine S.aloadN X.here hx (hb hby de2_8) rfl rfl ?_
      exact k)
  obtain ⟨b4, vm4, h4, t4, k4, E4, A4, F4c, F4v, V4, l4, m4, C4, N4, w4⟩ := w3.ldcCH hx (text := "") (hw _ (List.mem_of_getElem? (i := 18) rfl)) hS (List.mem_of_getElem? (i := 0) rfl) (vs := []) (z := (0 : Int32)) ⟨by decide, by decide⟩ (by decide) (by decide) rfl (hb hby de2_9) 0 (by decide) (by decide) (by decide) (by decide) (fun xq => (mkF m 11 #[.val (.ref x), .val (.ref b), .val (.int (0 : Int32)), .val (.int (0 : Int32)), .val .null, .unset] (.ref xq :: [(.ref x)]))) (fun _ => rfl)
  have z4 := E4.1
  have K5 : Keep h0 h4 [x] := K0.ext E4
  have F6 := chs C4 (by omega) (hSf _ (List.mem_of_getElem? (i := 0) rfl))
  have N4_x := N4 x F6
  have S4 : Str Z h4 b4 [] h4.size := Str.of A4 F4v F4c V4 rfl rfl (fun _ q => nomatch q) (by decide) l4 m4
  have w7 := w4.same (mkF m 14 #[.val (.ref x), .val (.ref b), .val (.int (0 : Int32)), .val (.int (0 : Int32)), .val .null, .unset] [(.ref t4), (.ref x)]) (fun X eT hZ hown => getF X hx hZ hown (host := "") (Or.inl (hw _ (List.mem_of_getElem? (i := 24) rfl))) Via.refl eT F4v (g := (mkF m 11 #[.val (.ref x), .val (.ref b), .val (.int (0 : Int32)), .val (.int (0 : Int32)), .val .null, .unset] [(.ref b4), (.ref x)])) rfl rfl (hb hby de2_11))
  have F8 := F01.ext E4
  have F9 := E0.ext E4
  obtain ⟨h10, W10, z10, F10, w10⟩ := w7.putF hx (host := "") (Or.inl (hw _ (List.mem_of_getElem? (i := 24) rfl))) Via.refl F8 F9 (Or.inr ⟨(hw _ (List.mem_of_getElem? (i := 20) rfl)), rfl, hnm⟩) (hw _ (List.mem_of_getElem? (i := 5) rfl)) (ty := (.array .byte)) (by decide) rfl rfl rfl rfl (hb hby de2_14) (by omega) F6 (mkF m 17 #[.val (.ref x), .val (.ref b), .val (.int (0 : Int32)), .val (.int (0 : Int32)), .val .null, .unset] []) rfl
  have K11 : Keep h0 h10 [x] := K5.wr W10 (Or.inl (List.mem_of_getElem? (i := 0) rfl))
  have w12 := w10.pure (mkF m 18 #[.val (.ref x), .val (.ref b), .val (.int (0 : Int32)), .val (.int (0 : Int32)), .val .null, .unset] [(.ref x)]) (fun X eT hZ hown k => by
      show Steps _ _ _ (State.setTop _ (mkF m 17 #[.val (.ref x), .val (.ref b), .val (.int (0 : Int32)), .val (.int (0 : Int32)), .val .null, .unset] [])) _
      refine S.aloadN X.here hx (hb hby de2_17) rfl rfl ?_
      exact k)
  obtain ⟨b13, vm13, h13, t13, k13, E13, A13, F13c, F13v, V13, l13, m13, C13, N13, w13⟩ := w12.ldcCH hx (text := "") (hw _ (List.mem_of_getElem? (i := 18) rfl)) hS (List.mem_of_getElem? (i := 0) rfl) (vs := []) (z := (0 : Int32)) ⟨by decide, by decide⟩ (by decide) (by decide) rfl (hb hby de2_18) 0 (by decide) (by decide) (by decide) (by decide) (fun xq => (mkF m 20 #[.val (.ref x), .val (.ref b), .val (.int (0 : Int32)), .val (.int (0 : Int32)), .val .null, .unset] (.ref xq :: [(.ref x)]))) (fun _ => rfl)
  have z13 := E13.1
  have K14 : Keep h0 h13 [x] := K11.ext E13
  have F15 := Safe.wr W10 F6 w7.chv F6
  have F16 := chs C13 (by omega) F15
  have N13_x := N13 x F16
  have S13 : Str Z h13 b13 [] h13.size := Str.of A13 F13v F13c V13 rfl rfl (fun _ q => nomatch q) (by decide) l13 m13
  have w17 := w13.same (mkF m 23 #[.val (.ref x), .val (.ref b), .val (.int (0 : Int32)), .val (.int (0 : Int32)), .val .null, .unset] [(.int (0 : Int32)), (.ref x)]) (fun X eT hZ hown => getF X hx hZ hown (host := "") (Or.inl (hw _ (List.mem_of_getElem? (i := 25) rfl))) Via.refl eT F13c (g := (mkF m 20 #[.val (.ref x), .val (.ref b), .val (.int (0 : Int32)), .val (.int (0 : Int32)), .val .null, .unset] [(.ref b13), (.ref x)])) rfl rfl (hb hby de2_20))
  have F18 := F02.ext E4
  have F19 := F18.other W10 (Or.inr (slot_ne (Or.inr (hw _ (List.mem_of_getElem? (i := 21) rfl))) (Or.inr (hw _ (List.mem_of_getElem? (i := 20) rfl))) (by decide) (t := .byte) (t' := (.array .byte)) (by decide) (by decide)))
  have F20 := F19.ext E13
  have F21 := F9.wr W10
  have F22 := F21.ext E13
  obtain ⟨h23, W23, z23, F23, w23⟩ := w17.putFN hx (hw _ (List.mem_of_getElem? (i := 25) rfl)) Via.refl (.int (0 : Int32)) F20 F22 (Or.inr ⟨(hw _ (List.mem_of_getElem? (i := 21) rfl)), rfl, hnm⟩) (hw _ (List.mem_of_getElem? (i := 5) rfl)) (ty := .byte) (by decide) rfl rfl rfl rfl (hb hby de2_23) (by omega) F16 (mkF m 26 #[.val (.ref x), .val (.ref b), .val (.int (0 : Int32)), .val (.int (0 : Int32)), .val .null, .unset] []) rfl
  have K24 : Keep h0 h23 [x] := K14.wr W23 (Or.inl (List.mem_of_getElem? (i := 0) rfl))
  have F25 := F22.wr W23
  have F26 := F10.ext E13
  have F27 := F26.other W23 (Or.inr (slot_ne (Or.inr (hw _ (List.mem_of_getElem? (i := 20) rfl))) (Or.inr (hw _ (List.mem_of_getElem? (i := 21) rfl))) (by decide) (t := (.array .byte)) (t' := .byte) (by decide) (by decide)))
  have F28 := V4.other W10 (nne (by omega))
  have F29 := F28.ext E13
  have F30 := F29.other W23 (nne (by omega))
  exact w23.endW (v := none) (Q := (fun v h => v = none ∧ Str Z h x [] h.size)) (wr := [x]) (h0 := h0) (fun _ => rfl) Bd.notSynchronized (fun X hr => X.returnOut hx Bd.returns (hb hby de2_26) hr) (by decide) (by decide) ⟨rfl, Str.of F25 F27 F23 F30 rfl rfl (fun _ q => nomatch q) (Nat.le_of_ble_eq_true rfl) (exlt F25) (arlt F30)⟩ K24
theorem pd_0 : parseMethodDescriptor "([CIILjava/lang/Void;)V" = some ⟨[(.array .char), .int, .int, (.object "java/lang/Void")], none⟩ := by decide +kernel
theorem de1_0 : decode jdk_42_method_3_code 0 = .ok (.aload_n 0, 1) := by decide +kernel
theorem de1_1 : decode jdk_42_method_3_code 1 = .ok (.aload_n 1, 1) := by decide +kernel
theorem de1_2 : decode jdk_42_method_3_code 2 = .ok (.iconst 0, 1) := by decide +kernel
theorem de1_3 : decode jdk_42_method_3_code 3 = .ok (.aload_n 1, 1) := by decide +kernel
theorem de1_4 : decode jdk_42_method_3_code 4 = .ok (.arraylength, 1) := by decide +kernel
theorem de1_5 : decode jdk_42_method_3_code 5 = .ok (.aconst_null, 1) := by decide +kernel
theorem de1_6 : decode jdk_42_method_3_code 6 = .ok (.invokespecial 27, 3) := by decide +kernel
theorem de1_9 : decode jdk_42_method_3_code 9 = .ok (.return_, 1) := by decide +kernel
theorem efe1 (m : MethodId) (x0 : Nat) (x1 : Nat) : entryFrame m #[(.ref x0), (.ref x1)] 2 = mkF m 0 #[.val (.ref x0), .val (.ref x1)] [] := by first | rfl | (simp [entryFrame, mkF, argsToLocals, Value.category, maxLocals]; done)
theorem pn_1 : plainFor (⟨"java/lang/String", "<init>", "([C)V"⟩ : MethodName) = true := by first | decide +kernel | (apply plainFor_of_name; simp [plainName, overriddenIn]; done)
set_option maxRecDepth 65536 in
set_option maxHeartbeats 40000000 in
theorem rme1 (l : Launch) (Z : State) (a0 : Array Value) (hw : ∀ d ∈ tables_1, d.before a0 Z = true) (hE : EW Z a0 consts_1) (x b : Nat) (k : ClassId) (h0 : Heap) (n0 : Nat) (Z0 : n0 ≤ h0.size) (gx : n0 ≤ x) (E0 : Exa Z h0 x "java/lang/String") (F01 : Fld Z h0 x "java/lang/String" "value" "[B" .null) (F02 : Fld Z h0 x "java/lang/String" "coder" "B" (.int (0 : Int32))) (V0 : Arv Z h0 b k .char (0 : Int32) [] (.int (0 : Int32))) :
    WMet l Z consts_1 (⟨"java/lang/String", "<init>", "([C)V"⟩ : MethodName) jdk_42_method_3_code 2 none [] ({ frames := 2, cells := 4, slots := 8, locals := 29 } : Room) [(.ref x), (.ref b)] h0 n0 [x] [x] (fun v h => v = none ∧ Str Z h x [] h.size) := by
  refine MetFree.of_bodySF pn_1 hisR ?_
  intro p e s m args below meth c s₁ Bd hml0 hP hK
  obtain ⟨rfl, hZ, hh, hC, hSf⟩ := hP
  have hx := Bd.exec
  have hby := Bd.bytes
  have hml : c.maxLocals = 2 := hml0
  have hnm := (name_of_methodNamed Bd.named Bd.method).1
  have w0 := Wk.start (a0 := a0) (EL := consts_1) (n0 := n0) (nw := false) Bd hZ hh hE hC (efe1 m x b) ({ frames := 2, cells := 4, slots := 8, locals := 29 } : Room) rfl
  have K0 : Keep h0 h0 [x] := Keep.refl _ _
  have lt_x := exlt E0
  have lt_b := arlt V0
  have w1 := w0.pure (mkF m 6 #[.val (.ref x), .val (.ref b)] [.null, (.int (0 : Int32)), (.int (0 : Int32)), (.ref b), (.ref x)]) (fun X eT hZ hown k => by
      show Steps _ _ _ (State.setTop _ (mkF m 0 #[.val (.ref x), .val (.ref b)] [])) _
      refine S.aloadN X.here hx (hb hby de1_0) rfl rfl ?_
      refine S.aloadN X.here hx (hb hby de1_1) rfl rfl ?_
      refine S.iconst X.here hx (0 : Int32) (hb hby de1_2) rfl ?_
      refine S.aloadN X.here hx (hb hby de1_3) rfl rfl ?_
      refine alenV X hx eT hZ V0 rfl rfl (hb hby de1_4) ?_
      show Steps _ _ _ (State.setTop _ (mkF m 5 #[.val (.ref x), .val (.ref b)] [(.int (0 : Int32)), (.int (0 : Int32)), (.ref b), (.ref x)])) _
      refine S.aconstNull X.here hx (hb hby de1_5) ?_
      exact k)
  obtain ⟨v2, vm2, h2, Q2, K2, z2, C2, w2⟩ := w1.callIW hx (y := (⟨"java/lang/String", "<init>", "([CIILjava/lang/Void;)V"⟩ : MethodName)) (W := 0) rfl (hw _ (List.mem_of_getElem? (i := 11) rfl)) (hw _ (List.mem_of_getElem? (i := 12) rfl)) (hw _ (List.mem_of_getElem? (i := 14) rfl)) (by decide) ((rme2 l Z a0 hw hE x b h0 n0 (by omega) (by omega) E0 F01 F02).pay w1 (hw _ (List.mem_of_getElem? (i := 14) rfl)) (hw _ (List.mem_of_getElem? (i := 6) rfl)) (by decide) (by decide) (allS ⟨by omega, (hSf _ (List.mem_of_getElem? (i := 0) rfl))⟩ all0)) rfl (by rw [hml]; rfl) [] (lenOf pd_0 rfl) rfl (by show 2 * 0 + _ ≤ _; exact Nat.le_of_eq rfl) (hb hby de1_6) (by decide) (by decide)  (fun rv => (mkF m 9 #[.val (.ref x), .val (.ref b)] (rv.toList ++ []))) (fun _ => rfl)
  obtain ⟨rfl, G2⟩ := Q2
  have K3 : Keep h0 h2 [x] := K0.trans K2 (allS (Or.inl (List.mem_of_getElem? (i := 0) rfl)) (fun _ q => nomatch q))
  have lt_x := G2.lt
  exact w2.endW (v := none) (Q := (fun v h => v = none ∧ Str Z h x [] h.size)) (wr := [x]) (h0 := h0) (fun _ => rfl) Bd.notSynchronized (fun X hr => X.returnOut hx Bd.returns (hb hby de1_9) hr) (by decide) (by decide) ⟨rfl, G2⟩ K3
theorem pd_1 : parseMethodDescriptor "([C)V" = some ⟨[(.array .char)], none⟩ := by decide +kernel
theorem d1_0 : decode method_2_code 0 = .ok (.iload_n 0, 1) := by decide +kernel
theorem d1_1 : decode method_2_code 1 = .ok (.iconst 4, 1) := by decide +kernel
theorem d1_2 : decode method_2_code 2 = .ok (.iand, 1) := by decide +kernel
theorem d1_3 : decode method_2_code 3 = .ok (.ifCond .eq 5, 3) := by decide +kernel
theorem d1_6 : decode method_2_code 6 = .ok (.aconst_null, 1) := by decide +kernel
theorem d1_7 : decode method_2_code 7 = .ok (.areturn, 1) := by decide +kernel
theorem d1_8 : decode method_2_code 8 = .ok (.iload_n 1, 1) := by decide +kernel
theorem d1_9 : decode method_2_code 9 = .ok (.sipush 255, 3) := by decide +kernel
theorem d1_12 : decode method_2_code 12 = .ok (.iand, 1) := by decide +kernel
theorem d1_13 : decode method_2_code 13 = .ok (.i2c, 1) := by decide +kernel
theorem d1_14 : decode method_2_code 14 = .ok (.istore 4, 2) := by decide +kernel
theorem d1_16 : decode method_2_code 16 = .ok (.iload_n 2, 1) := by decide +kernel
theorem d1_17 : decode method_2_code 17 = .ok (.sipush 255, 3) := by decide +kernel
theorem d1_20 : decode method_2_code 20 = .ok (.iand, 1) := by decide +kernel
theorem d1_21 : decode method_2_code 21 = .ok (.i2c, 1) := by decide +kernel
theorem d1_22 : decode method_2_code 22 = .ok (.istore 5, 2) := by decide +kernel
theorem d1_24 : decode method_2_code 24 = .ok (.iload_n 3, 1) := by decide +kernel
theorem d1_25 : decode method_2_code 25 = .ok (.sipush 255, 3) := by decide +kernel
theorem d1_28 : decode method_2_code 28 = .ok (.iand, 1) := by decide +kernel
theorem d1_29 : decode method_2_code 29 = .ok (.i2c, 1) := by decide +kernel
theorem d1_30 : decode method_2_code 30 = .ok (.istore 6, 2) := by decide +kernel
theorem d1_32 : decode method_2_code 32 = .ok (.iload_n 0, 1) := by decide +kernel
theorem d1_33 : decode method_2_code 33 = .ok (.iconst 3, 1) := by decide +kernel
theorem d1_34 : decode method_2_code 34 = .ok (.iand, 1) := by decide +kernel
theorem d1_35 : decode method_2_code 35 = .ok (.istore 7, 2) := by decide +kernel
theorem d1_37 : decode method_2_code 37 = .ok (.iload 7, 2) := by decide +kernel
theorem d1_39 : decode method_2_code 39 = .ok (.ifCond .ne 14, 3) := by decide +kernel
theorem d1_42 : decode method_2_code 42 = .ok (.new 7, 3) := by decide +kernel
theorem d1_45 : decode method_2_code 45 = .ok (.dup, 1) := by decide +kernel
theorem d1_46 : decode method_2_code 46 = .ok (.iconst 0, 1) := by decide +kernel
theorem d1_47 : decode method_2_code 47 = .ok (.newarray .char, 2) := by decide +kernel
theorem d1_49 : decode method_2_code 49 = .ok (.invokespecial 9, 3) := by decide +kernel
theorem d1_52 : decode method_2_code 52 = .ok (.areturn, 1) := by decide +kernel
theorem d1_53 : decode method_2_code 53 = .ok (.iload 7, 2) := by decide +kernel
theorem d1_55 : decode method_2_code 55 = .ok (.iconst 1, 1) := by decide +kernel
theorem d1_56 : decode method_2_code 56 = .ok (.if_icmp .ne 19, 3) := by decide +kernel
theorem d1_59 : decode method_2_code 59 = .ok (.new 7, 3) := by decide +kernel
theorem d1_62 : decode method_2_code 62 = .ok (.dup, 1) := by decide +kernel
theorem d1_63 : decode method_2_code 63 = .ok (.iconst 1, 1) := by decide +kernel
theorem d1_64 : decode method_2_code 64 = .ok (.newarray .char, 2) := by decide +kernel
theorem d1_66 : decode method_2_code 66 = .ok (.dup, 1) := by decide +kernel
theorem d1_67 : decode method_2_code 67 = .ok (.iconst 0, 1) := by decide +kernel
theorem d1_68 : decode method_2_code 68 = .ok (.iload 4, 2) := by decide +kernel
theorem d1_70 : decode method_2_code 70 = .ok (.castore, 1) := by decide +kernel
theorem d1_71 : decode method_2_code 71 = .ok (.invokespecial 9, 3) := by decide +kernel
theorem d1_74 : decode method_2_code 74 = .ok (.areturn, 1) := by decide +kernel
theorem d1_75 : decode method_2_code 75 = .ok (.iload 7, 2) := by decide +kernel
theorem d1_77 : decode method_2_code 77 = .ok (.iconst 2, 1) := by decide +kernel
theorem d1_78 : decode method_2_code 78 = .ok (.if_icmp .ne 24, 3) := by decide +kernel
theorem d1_81 : decode method_2_code 81 = .ok (.new 7, 3) := by decide +kernel
theorem d1_84 : decode method_2_code 84 = .ok (.dup, 1) := by decide +kernel
theorem d1_85 : decode method_2_code 85 = .ok (.iconst 2, 1) := by decide +kernel
theorem d1_86 : decode method_2_code 86 = .ok (.newarray .char, 2) := by decide +kernel
theorem d1_88 : decode method_2_code 88 = .ok (.dup, 1) := by decide +kernel
theorem d1_89 : decode method_2_code 89 = .ok (.iconst 0, 1) := by decide +kernel
theorem d1_90 : decode method_2_code 90 = .ok (.iload 4, 2) := by decide +kernel
theorem d1_92 : decode method_2_code 92 = .ok (.castore, 1) := by decide +kernel
theorem d1_93 : decode method_2_code 93 = .ok (.dup, 1) := by decide +kernel
theorem d1_94 : decode method_2_code 94 = .ok (.iconst 1, 1) := by decide +kernel
theorem d1_95 : decode method_2_code 95 = .ok (.iload 5, 2) := by decide +kernel
theorem d1_97 : decode method_2_code 97 = .ok (.castore, 1) := by decide +kernel
theorem d1_98 : decode method_2_code 98 = .ok (.invokespecial 9, 3) := by decide +kernel
theorem d1_101 : decode method_2_code 101 = .ok (.areturn, 1) := by decide +kernel
theorem d1_102 : decode method_2_code 102 = .ok (.new 7, 3) := by decide +kernel
theorem d1_105 : decode method_2_code 105 = .ok (.dup, 1) := by decide +kernel
theorem d1_106 : decode method_2_code 106 = .ok (.iconst 3, 1) := by decide +kernel
theorem d1_107 : decode method_2_code 107 = .ok (.newarray .char, 2) := by decide +kernel
theorem d1_109 : decode method_2_code 109 = .ok (.dup, 1) := by decide +kernel
theorem d1_110 : decode method_2_code 110 = .ok (.iconst 0, 1) := by decide +kernel
theorem d1_111 : decode method_2_code 111 = .ok (.iload 4, 2) := by decide +kernel
theorem d1_113 : decode method_2_code 113 = .ok (.castore, 1) := by decide +kernel
theorem d1_114 : decode method_2_code 114 = .ok (.dup, 1) := by decide +kernel
theorem d1_115 : decode method_2_code 115 = .ok (.iconst 1, 1) := by decide +kernel
theorem d1_116 : decode method_2_code 116 = .ok (.iload 5, 2) := by decide +kernel
theorem d1_118 : decode method_2_code 118 = .ok (.castore, 1) := by decide +kernel
theorem d1_119 : decode method_2_code 119 = .ok (.dup, 1) := by decide +kernel
theorem d1_120 : decode method_2_code 120 = .ok (.iconst 2, 1) := by decide +kernel
theorem d1_121 : decode method_2_code 121 = .ok (.iload 6, 2) := by decide +kernel
theorem d1_123 : decode method_2_code 123 = .ok (.castore, 1) := by decide +kernel
theorem d1_124 : decode method_2_code 124 = .ok (.invokespecial 9, 3) := by decide +kernel
theorem d1_127 : decode method_2_code 127 = .ok (.areturn, 1) := by decide +kernel
theorem ef1 (m : MethodId) (x0 : Int32) (x1 : Int32) (x2 : Int32) (x3 : Int32) : entryFrame m #[(.int x0), (.int x1), (.int x2), (.int x3)] 8 = mkF m 0 #[.val (.int x0), .val (.int x1), .val (.int x2), .val (.int x3), .unset, .unset, .unset, .unset] [] := by first | rfl | (simp [entryFrame, mkF, argsToLocals, Value.category, maxLocals]; done)
theorem pn_2 : plainFor (⟨"com/example/unified_lexicon/unifiedlexicon/formats/TermIriPinLaw", "drawn", "(IIII)Ljava/lang/String;"⟩ : MethodName) = true := by first | decide +kernel | (apply plainFor_of_name; simp [plainName, overriddenIn]; done)
set_option maxRecDepth 65536 in
set_option maxHeartbeats 40000000 in
theorem rm1 (l : Launch) (Z : State) (a0 : Array Value) (hw : ∀ d ∈ tables_1, d.before a0 Z = true) (hE : EW Z a0 consts_1) (p0 p1 p2 p3 : Int32) (h0 : Heap) (n0 : Nat) (Z0 : n0 ≤ h0.size) (hG : SetsOk Z) (X0 : Old Z n0 h0) :
    WMet l Z consts_1 (⟨"com/example/unified_lexicon/unifiedlexicon/formats/TermIriPinLaw", "drawn", "(IIII)Ljava/lang/String;"⟩ : MethodName) method_2_code 8 (some (.object "java/lang/String")) [] ({ frames := 4, cells := 6, slots := 12, locals := 66 } : Room) [(.int p0), (.int p1), (.int p2), (.int p3)] h0 n0 [] [] (fun v h => v = some .null ∨ ∃ x cs, v = some (.ref x) ∧ n0 ≤ x ∧ Str Z h x cs h.size) := by
  refine MetFree.of_bodySF pn_2 hisR ?_
  intro p e s m args below meth c s₁ Bd hml0 hP hK
  obtain ⟨rfl, hZ, hh, hC, hSf⟩ := hP
  have hx := Bd.exec
  have hby := Bd.bytes
  have hml : c.maxLocals = 8 := hml0
  have hnm := (name_of_methodNamed Bd.named Bd.method).1
  have w0 := Wk.start (a0 := a0) (EL := consts_1) (n0 := n0) (nw := false) Bd hZ hh hE hC (ef1 m p0 p1 p2 p3) ({ frames := 4, cells := 6, slots := 12, locals := 66 } : Room) rfl
  have K0 : Keep h0 h0 [] := Keep.refl _ _
  have hq_backV : ∀ d ∈ StrChars.Road.words, d.before a0 Z = true := fun d hd => hw d ((by decide +kernel : ∀ d ∈ StrChars.Road.words, d ∈ tables_1) d hd)
  have w1 := w0.pure (mkF m 3 #[.val (.int p0), .val (.int p1), .val (.int p2), .val (.int p3), .unset, .unset, .unset, .unset] [(.int (p0 &&& (4 : Int32)))]) (fun X eT hZ hown k => by
      show Steps _ _ _ (State.setTop _ (mkF m 0 #[.val (.int p0), .val (.int p1), .val (.int p2), .val (.int p3), .unset, .unset, .unset, .unset] [])) _
      refine S.iloadN X.here hx (hb hby d1_0) rfl ?_
      refine S.iconst X.here hx (4 : Int32) (hb hby d1_1) rfl ?_
      refine S.iand X.here hx (hb hby d1_2) ?_
      exact k)
  by_cases hc2 : (p0 &&& (4 : Int32)) = (0 : Int32)
  · have w3 := w1.pure (mkF m 39 #[.val (.int p0), .val (.int p1), .val (.int p2), .val (.int p3), .val (.int (p1 &&& (255 : Int32))), .val (.int (p2 &&& (255 : Int32))), .val (.int (p3 &&& (255 : Int32))), .val (.int (p0 &&& (3 : Int32)))] [(.int (p0 &&& (3 : Int32)))]) (fun X eT hZ hown k => by
        show Steps _ _ _ (State.setTop _ (mkF m 3 #[.val (.int p0), .val (.int p1), .val (.int p2), .val (.int p3), .unset, .unset, .unset, .unset] [(.int (p0 &&& (4 : Int32)))])) _
        refine S.ifYes X.here hx 8 (hb hby d1_3) ((if0 _ _).trans (teq hc2).1) (by decide) (by decide) ?_
        refine S.iloadN X.here hx (hb hby d1_8) rfl ?_
        refine S.sipush X.here hx (255 : Int32) (hb hby d1_9) rfl ?_
        refine S.iand X.here hx (hb hby d1_12) ?_
        refine S.i2cM X.here hx (hb hby d1_13) ?_
        refine S.istore X.here hx (hb hby d1_14) #[.val (.int p0), .val (.int p1), .val (.int p2), .val (.int p3), .val (.int (p1 &&& (255 : Int32))), .unset, .unset, .unset] rfl ?_
        refine S.iloadN X.here hx (hb hby d1_16) rfl ?_
        refine S.sipush X.here hx (255 : Int32) (hb hby d1_17) rfl ?_
        refine S.iand X.here hx (hb hby d1_20) ?_
        refine S.i2cM X.here hx (hb hby d1_21) ?_
        refine S.istore X.here hx (hb hby d1_22) #[.val (.int p0), .val (.int p1), .val (.int p2), .val (.int p3), .val (.int (p1 &&& (255 : Int32))), .val (.int (p2 &&& (255 : Int32))), .unset, .unset] rfl ?_
        refine S.iloadN X.here hx (hb hby d1_24) rfl ?_
        refine S.sipush X.here hx (255 : Int32) (hb hby d1_25) rfl ?_
        refine S.iand X.here hx (hb hby d1_28) ?_
        refine S.i2cM X.here hx (hb hby d1_29) ?_
        refine S.istore X.here hx (hb hby d1_30) #[.val (.int p0), .val (.int p1), .val (.int p2), .val (.int p3), .val (.int (p1 &&& (255 : Int32))), .val (.int (p2 &&& (255 : Int32))), .val (.int (p3 &&& (255 : Int32))), .unset] rfl ?_
        refine S.iloadN X.here hx (hb hby d1_32) rfl ?_
        refine S.iconst X.here hx (3 : Int32) (hb hby d1_33) rfl ?_
        refine S.iand X.here hx (hb hby d1_34) ?_
        refine S.istore X.here hx (hb hby d1_35) #[.val (.int p0), .val (.int p1), .val (.int p2), .val (.int p3), .val (.int (p1 &&& (255 : Int32))), .val (.int (p2 &&& (255 : Int32))), .val (.int (p3 &&& (255 : Int32))), .val (.int (p0 &&& (3 : Int32)))] rfl ?_
        refine S.iload X.here hx (hb hby d1_37) rfl ?_
        exact k)
    by_cases hc4 : (p0 &&& (3 : Int32)) = (0 : Int32)
    · have w5 := w3.pure (mkF m 42 #[.val (.int p0), .val (.int p1), .val (.int p2), .val (.int p3), .val (.int (p1 &&& (255 : Int32))), .val (.int (p2 &&& (255 : Int32))), .val (.int (p3 &&& (255 : Int32))), .val (.int (p0 &&& (3 : Int32)))] []) (fun X eT hZ hown k => by
          show Steps _ _ _ (State.setTop _ (mkF m 39 #[.val (.int p0), .val (.int p1), .val (.int p2), .val (.int p3), .val (.int (p1 &&& (255 : Int32))), .val (.int (p2 &&& (255 : Int32))), .val (.int (p3 &&& (255 : Int32))), .val (.int (p0 &&& (3 : Int32)))] [(.int (p0 &&& (3 : Int32)))])) _
          refine S.ifNo X.here hx (hb hby d1_39) ((if0 _ _).trans (teq hc4).2) ?_
          exact k)
      obtain ⟨b6, h6, g6, E6, l6, A6, D6, y6, w6⟩ := w5.newO hx (hw _ (List.mem_of_getElem? (i := 4) rfl)) (hw _ (List.mem_of_getElem? (i := 5) rfl)) (hw _ (List.mem_of_getElem? (i := 6) rfl)) rfl (hb hby d1_42) (by decide) (by decide) (fun xq => (mkF m 45 #[.val (.int p0), .val (.int p1), .val (.int p2), .val (.int p3), .val (.int (p1 &&& (255 : Int32))), .val (.int (p2 &&& (255 : Int32))), .val (.int (p3 &&& (255 : Int32))), .val (.int (p0 &&& (3 : Int32)))] (.ref xq :: []))) (fun _ => rfl)
      have z6 := E6.1
      have K7 : Keep h0 h6 [] := K0.ext E6
      have D6_20 : Fld Z h6 b6 "java/lang/String" "value" "[B" .null := D6 (Or.inr (hw _ (List.mem_of_getElem? (i := 20) rfl))) (ty := (.array .byte)) (by decide)
      have D6_21 : Fld Z h6 b6 "java/lang/String" "coder" "B" (.int (0 : Int32)) := D6 (Or.inr (hw _ (List.mem_of_getElem? (i := 21) rfl))) (ty := .byte) (by decide)
      have w8 := w6.pure (mkF m 47 #[.val (.int p0), .val (.int p1), .val (.int p2), .val (.int p3), .val (.int (p1 &&& (255 : Int32))), .val (.int (p2 &&& (255 : Int32))), .val (.int (p3 &&& (255 : Int32))), .val (.int (p0 &&& (3 : Int32)))] [(.int (0 : Int32)), (.ref b6), (.ref b6)]) (fun X eT hZ hown k => by
          show Steps _ _ _ (State.setTop _ (mkF m 45 #[.val (.int p0), .val (.int p1), .val (.int p2), .val (.int p3), .val (.int (p1 &&& (255 : Int32))), .val (.int (p2 &&& (255 : Int32))), .val (.int (p3 &&& (255 : Int32))), .val (.int (p0 &&& (3 : Int32)))] [(.ref b6)])) _
          refine S.dup X.here hx (hb hby d1_45) rfl ?_
          refine S.iconst X.here hx (0 : Int32) (hb hby d1_46) rfl ?_
          exact k)
      obtain ⟨b9, h9, k9, g9, E9, l9, A9, y9, w9⟩ := w8.newP hx (hw _ (List.mem_of_getElem? (i := 7) rfl)) rfl (hb hby d1_47) rfl (by decide) 0 (by decide) (by decide) (by decide) (by decide) (fun xq => (mkF m 49 #[.val (.int p0), .val (.int p1), .val (.int p2), .val (.int p3), .val (.int (p1 &&& (255 : Int32))), .val (.int (p2 &&& (255 : Int32))), .val (.int (p3 &&& (255 : Int32))), .val (.int (p0 &&& (3 : Int32)))] (.ref xq :: [(.ref b6), (.ref b6)]))) (fun _ => rfl)
      have z9 := E9.1
      have K10 : Keep h0 h9 [] := K7.ext E9
      have V9 : Arv Z h9 b9 k9 .char (0 : Int32) [] (.int (0 : Int32)) := A9.pad (pad_rep [] (.int (0 : Int32)) 0)
      have F11 := A6.ext E9
      have F12 := D6_20.ext E9
      have F13 := D6_21.ext E9
      have F14 := Safe.ext E9 w8.chv y6
      obtain ⟨v15, vm15, h15, Q15, K15, z15, C15, w15⟩ := w9.callIW hx (y := (⟨"java/lang/String", "<init>", "([C)V"⟩ : MethodName)) (W := 1) rfl (hw _ (List.mem_of_getElem? (i := 8) rfl)) (hw _ (List.mem_of_getElem? (i := 9) rfl)) (hw _ (List.mem_of_getElem? (i := 10) rfl)) (by decide) ((rme1 l Z a0 hw hE b6 b9 k9 h9 n0 (by omega) (by omega) F11 F12 F13 V9).pay w9 (hw _ (List.mem_of_getElem? (i := 10) rfl)) (hw _ (List.mem_of_getElem? (i := 6) rfl)) (by decide) (by decide) (allS ⟨by omega, F14⟩ all0)) rfl (by rw [hml]; rfl) [(.ref b6)] (lenOf pd_1 rfl) rfl (by show 2 * 0 + _ ≤ _; exact Nat.le_of_eq rfl) (hb hby d1_49) (by decide) (by decide)  (fun rv => (mkF m 52 #[.val (.int p0), .val (.int p1), .val (.int p2), .val (.int p3), .val (.int (p1 &&& (255 : Int32))), .val (.int (p2 &&& (255 : Int32))), .val (.int (p3 &&& (255 : Int32))), .val (.int (p0 &&& (3 : Int32)))] (rv.toList ++ [(.ref b6)]))) (fun _ => rfl)
      obtain ⟨rfl, G15⟩ := Q15
      have K16 : Keep h0 h15 [] := K10.trans K15 (allS (Or.inr (by omega)) (fun _ q => nomatch q))
      have lt_b6 := G15.lt
      exact w15.endW (v := some (.ref b6)) (Q := (fun v h => v = some .null ∨ ∃ x cs, v = some (.ref x) ∧ n0 ≤ x ∧ Str Z h x cs h.size)) (wr := []) (h0 := h0) (fun h => by rw [Bd.returns] at h; cases h) Bd.notSynchronized (fun X hr => X.areturnOut hx rfl Bd.returns rfl (hb hby d1_52) hr) (by decide) (by decide) (Or.inr ⟨b6, [], rfl, by omega, G15.more (by omega)⟩) K16
    · have w17 := w3.pure (mkF m 56 #[.val (.int p0), .val (.int p1), .val (.int p2), .val (.int p3), .val (.int (p1 &&& (255 : Int32))), .val (.int (p2 &&& (255 : Int32))), .val (.int (p3 &&& (255 : Int32))), .val (.int (p0 &&& (3 : Int32)))] [(.int (1 : Int32)), (.int (p0 &&& (3 : Int32)))]) (fun X eT hZ hown k => by
          show Steps _ _ _ (State.setTop _ (mkF m 39 #[.val (.int p0), .val (.int p1), .val (.int p2), .val (.int p3), .val (.int (p1 &&& (255 : Int32))), .val (.int (p2 &&& (255 : Int32))), .val (.int (p3 &&& (255 : Int32))), .val (.int (p0 &&& (3 : Int32)))] [(.int (p0 &&& (3 : Int32)))])) _
          refine S.ifYes X.here hx 53 (hb hby d1_39) ((if0 _ _).trans (feq hc4).2) (by decide) (by decide) ?_
          refine S.iload X.here hx (hb hby d1_53) rfl ?_
          refine S.iconst X.here hx (1 : Int32) (hb hby d1_55) rfl ?_
          exact k)
      by_cases hc18 : (p0 &&& (3 : Int32)) = (1 : Int32)
      · have w19 := w17.pure (mkF m 59 #[.val (.int p0), .val (.int p1), .val (.int p2), .val (.int p3), .val (.int (p1 &&& (255 : Int32))), .val (.int (p2 &&& (255 : Int32))), .val (.int (p3 &&& (255 : Int32))), .val (.int (p0 &&& (3 : Int32)))] []) (fun X eT hZ hown k => by
            show Steps _ _ _ (State.setTop _ (mkF m 56 #[.val (.int p0), .val (.int p1), .val (.int p2), .val (.int p3), .val (.int (p1 &&& (255 : Int32))), .val (.int (p2 &&& (255 : Int32))), .val (.int (p3 &&& (255 : Int32))), .val (.int (p0 &&& (3 : Int32)))] [(.int (1 : Int32)), (.int (p0 &&& (3 : Int32)))])) _
            refine S.icmpNo X.here hx (hb hby d1_56) (teq hc18).2 ?_
            exact k)
        obtain ⟨b20, h20, g20, E20, l20, A20, D20, y20, w20⟩ := w19.newO hx (hw _ (List.mem_of_getElem? (i := 4) rfl)) (hw _ (List.mem_of_getElem? (i := 5) rfl)) (hw _ (List.mem_of_getElem? (i := 6) rfl)) rfl (hb hby d1_59) (by decide) (by decide) (fun xq => (mkF m 62 #[.val (.int p0), .val (.int p1), .val (.int p2), .val (.int p3), .val (.int (p1 &&& (255 : Int32))), .val (.int (p2 &&& (255 : Int32))), .val (.int (p3 &&& (255 : Int32))), .val (.int (p0 &&& (3 : Int32)))] (.ref xq :: []))) (fun _ => rfl)
        have z20 := E20.1
        have K21 : Keep h0 h20 [] := K0.ext E20
        have D20_20 : Fld Z h20 b20 "java/lang/String" "value" "[B" .null := D20 (Or.inr (hw _ (List.mem_of_getElem? (i := 20) rfl))) (ty := (.array .byte)) (by decide)
        have D20_21 : Fld Z h20 b20 "java/lang/String" "coder" "B" (.int (0 : Int32)) := D20 (Or.inr (hw _ (List.mem_of_getElem? (i := 21) rfl))) (ty := .byte) (by decide)
        have w22 := w20.pure (mkF m 64 #[.val (.int p0), .val (.int p1), .val (.int p2), .val (.int p3), .val (.int (p1 &&& (255 : Int32))), .val (.int (p2 &&& (255 : Int32))), .val (.int (p3 &&& (255 : Int32))), .val (.int (p0 &&& (3 : Int32)))] [(.int (1 : Int32)), (.ref b20), (.ref b20)]) (fun X eT hZ hown k => by
            show Steps _ _ _ (State.setTop _ (mkF m 62 #[.val (.int p0), .val (.int p1), .val (.int p2), .val (.int p3), .val (.int (p1 &&& (255 : Int32))), .val (.int (p2 &&& (255 : Int32))), .val (.int (p3 &&& (255 : Int32))), .val (.int (p0 &&& (3 : Int32)))] [(.ref b20)])) _
            refine S.dup X.here hx (hb hby d1_62) rfl ?_
            refine S.iconst X.here hx (1 : Int32) (hb hby d1_63) rfl ?_
            exact k)
        obtain ⟨b23, h23, k23, g23, E23, l23, A23, y23, w23⟩ := w22.newP hx (hw _ (List.mem_of_getElem? (i := 7) rfl)) rfl (hb hby d1_64) rfl (by decide) 1 (by decide) (by decide) (by decide) (by decide) (fun xq => (mkF m 66 #[.val (.int p0), .val (.int p1), .val (.int p2), .val (.int p3), .val (.int (p1 &&& (255 : Int32))), .val (.int (p2 &&& (255 : Int32))), .val (.int (p3 &&& (255 : Int32))), .val (.int (p0 &&& (3 : Int32)))] (.ref xq :: [(.ref b20), (.ref b20)]))) (fun _ => rfl)
        have z23 := E23.1
        have K24 : Keep h0 h23 [] := K21.ext E23
        have V23 : Arv Z h23 b23 k23 .char (1 : Int32) [(.int (0 : Int32))] (.int (0 : Int32)) := A23.pad (pad_rep [] (.int (0 : Int32)) 1)
        have w25 := w23.pure (mkF m 70 #[.val (.int p0), .val (.int p1), .val (.int p2), .val (.int p3), .val (.int (p1 &&& (255 : Int32))), .val (.int (p2 &&& (255 : Int32))), .val (.int (p3 &&& (255 : Int32))), .val (.int (p0 &&& (3 : Int32)))] [(.int (p1 &&& (255 : Int32))), (.int (0 : Int32)), (.ref b23), (.ref b23), (.ref b20), (.ref b20)]) (fun X eT hZ hown k => by
            show Steps _ _ _ (State.setTop _ (mkF m 66 #[.val (.int p0), .val (.int p1), .val (.int p2), .val (.int p3), .val (.int (p1 &&& (255 : Int32))), .val (.int (p2 &&& (255 : Int32))), .val (.int (p3 &&& (255 : Int32))), .val (.int (p0 &&& (3 : Int32)))] [(.ref b23), (.ref b20), (.ref b20)])) _
            refine S.dup X.here hx (hb hby d1_66) rfl ?_
            refine S.iconst X.here hx (0 : Int32) (hb hby d1_67) rfl ?_
            refine S.iload X.here hx (hb hby d1_68) rfl ?_
            exact k)
        obtain ⟨h26, W26, z26, V26, w26⟩ := w25.stC hx V23 0 rfl (Nat.le_of_ble_eq_true rfl) ⟨by decide, by decide⟩ rfl rfl (hb hby d1_70) (by omega) (mkF m 71 #[.val (.int p0), .val (.int p1), .val (.int p2), .val (.int p3), .val (.int (p1 &&& (255 : Int32))), .val (.int (p2 &&& (255 : Int32))), .val (.int (p3 &&& (255 : Int32))), .val (.int (p0 &&& (3 : Int32)))] [(.ref b23), (.ref b20), (.ref b20)]) rfl
        rw [nar_255] at V26
        have U26 : Arv Z h26 b23 k23 .char (1 : Int32) [(.int (p1 &&& (255 : Int32)))] (.int (0 : Int32)) := V26
        have K27 : Keep h0 h26 [] := K24.wr W26 (Or.inr (by omega))
        have F28 := A20.ext E23
        have F29 := F28.wr W26
        have F30 := D20_20.ext E23
        have F31 := F30.other W26 (Or.inl (nne (by omega)))
        have F32 := D20_21.ext E23
        have F33 := F32.other W26 (Or.inl (nne (by omega)))
        have F34 := X0.ext E20
        have F35 := F34.ext E23
        have F36 := F35.wr W26 (by omega)
        have r37 : ∀ c ∈ ([(p1 &&& (255 : Int32))] : List Int32), ¬ c < 0 ∧ ¬ (255 : Int32) < c := (List.forall_mem_cons.mpr ⟨(and255_rng _), (fun _ q => nomatch q)⟩)
        have F39 := Safe.ext E23 w22.chv y20
        have F40 := Safe.wr W26 (Safe.arv w25.al V23 (by decide)) w25.chv F39
        obtain ⟨v38, h38, Q38, K38, z38, w38⟩ := w26.callI hx (y := (⟨"java/lang/String", "<init>", "([C)V"⟩ : MethodName)) (W := 1) rfl (hw _ (List.mem_of_getElem? (i := 8) rfl)) (hw _ (List.mem_of_getElem? (i := 9) rfl)) (hw _ (List.mem_of_getElem? (i := 10) rfl)) (by decide) (payNew hG w26.hZ hq_backV (hw _ (List.mem_of_getElem? (i := 5) rfl)) [(p1 &&& (255 : Int32))] 1 (by omega) F29 F31 F33 U26 F36 rfl rfl (by decide) (by decide) r37 (by decide) (by decide)) rfl (by rw [hml]; rfl) [(.ref b20)] (lenOf pd_1 rfl) rfl (by show 2 * 0 + _ ≤ _; exact Nat.le_of_eq rfl) (hb hby d1_71) (by decide) (by decide) (sfS F40 sf0) (fun rv => (mkF m 74 #[.val (.int p0), .val (.int p1), .val (.int p2), .val (.int p3), .val (.int (p1 &&& (255 : Int32))), .val (.int (p2 &&& (255 : Int32))), .val (.int (p3 &&& (255 : Int32))), .val (.int (p0 &&& (3 : Int32)))] (rv.toList ++ [(.ref b20)]))) (fun _ => rfl)
        obtain ⟨rfl, G38⟩ := Q38
        have K41 : Keep h0 h38 [] := K27.trans K38 (allS (Or.inr (by omega)) (fun _ q => nomatch q))
        have lt_b20 := G38.lt
        exact w38.endW (v := some (.ref b20)) (Q := (fun v h => v = some .null ∨ ∃ x cs, v = some (.ref x) ∧ n0 ≤ x ∧ Str Z h x cs h.size)) (wr := []) (h0 := h0) (fun h => by rw [Bd.returns] at h; cases h) Bd.notSynchronized (fun X hr => X.areturnOut hx rfl Bd.returns rfl (hb hby d1_74) hr) (by decide) (by decide) (Or.inr ⟨b20, [(p1 &&& (255 : Int32))], rfl, by omega, G38.more (by omega)⟩) K41
      · have w42 := w17.pure (mkF m 78 #[.val (.int p0), .val (.int p1), .val (.int p2), .val (.int p3), .val (.int (p1 &&& (255 : Int32))), .val (.int (p2 &&& (255 : Int32))), .val (.int (p3 &&& (255 : Int32))), .val (.int (p0 &&& (3 : Int32)))] [(.int (2 : Int32)), (.int (p0 &&& (3 : Int32)))]) (fun X eT hZ hown k => by
            show Steps _ _ _ (State.setTop _ (mkF m 56 #[.val (.int p0), .val (.int p1), .val (.int p2), .val (.int p3), .val (.int (p1 &&& (255 : Int32))), .val (.int (p2 &&& (255 : Int32))), .val (.int (p3 &&& (255 : Int32))), .val (.int (p0 &&& (3 : Int32)))] [(.int (1 : Int32)), (.int (p0 &&& (3 : Int32)))])) _
            refine S.icmpYes X.here hx 75 (hb hby d1_56) (feq hc18).2 (by decide) (by decide) ?_
            refine S.iload X.here hx (hb hby d1_75) rfl ?_
            refine S.iconst X.here hx (2 : Int32) (hb hby d1_77) rfl ?_
            exact k)
        by_cases hc43 : (p0 &&& (3 : Int32)) = (2 : Int32)
        · have w44 := w42.pure (mkF m 81 #[.val (.int p0), .val (.int p1), .val (.int p2), .val (.int p3), .val (.int (p1 &&& (255 : Int32))), .val (.int (p2 &&& (255 : Int32))), .val (.int (p3 &&& (255 : Int32))), .val (.int (p0 &&& (3 : Int32)))] []) (fun X eT hZ hown k => by
              show Steps _ _ _ (State.setTop _ (mkF m 78 #[.val (.int p0), .val (.int p1), .val (.int p2), .val (.int p3), .val (.int (p1 &&& (255 : Int32))), .val (.int (p2 &&& (255 : Int32))), .val (.int (p3 &&& (255 : Int32))), .val (.int (p0 &&& (3 : Int32)))] [(.int (2 : Int32)), (.int (p0 &&& (3 : Int32)))])) _
              refine S.icmpNo X.here hx (hb hby d1_78) (teq hc43).2 ?_
              exact k)
          obtain ⟨b45, h45, g45, E45, l45, A45, D45, y45, w45⟩ := w44.newO hx (hw _ (List.mem_of_getElem? (i := 4) rfl)) (hw _ (List.mem_of_getElem? (i := 5) rfl)) (hw _ (List.mem_of_getElem? (i := 6) rfl)) rfl (hb hby d1_81) (by decide) (by decide) (fun xq => (mkF m 84 #[.val (.int p0), .val (.int p1), .val (.int p2), .val (.int p3), .val (.int (p1 &&& (255 : Int32))), .val (.int (p2 &&& (255 : Int32))), .val (.int (p3 &&& (255 : Int32))), .val (.int (p0 &&& (3 : Int32)))] (.ref xq :: []))) (fun _ => rfl)
          have z45 := E45.1
          have K46 : Keep h0 h45 [] := K0.ext E45
          have D45_20 : Fld Z h45 b45 "java/lang/String" "value" "[B" .null := D45 (Or.inr (hw _ (List.mem_of_getElem? (i := 20) rfl))) (ty := (.array .byte)) (by decide)
          have D45_21 : Fld Z h45 b45 "java/lang/String" "coder" "B" (.int (0 : Int32)) := D45 (Or.inr (hw _ (List.mem_of_getElem? (i := 21) rfl))) (ty := .byte) (by decide)
          have w47 := w45.pure (mkF m 86 #[.val (.int p0), .val (.int p1), .val (.int p2), .val (.int p3), .val (.int (p1 &&& (255 : Int32))), .val (.int (p2 &&& (255 : Int32))), .val (.int (p3 &&& (255 : Int32))), .val (.int (p0 &&& (3 : Int32)))] [(.int (2 : Int32)), (.ref b45), (.ref b45)]) (fun X eT hZ hown k => by
              show Steps _ _ _ (State.setTop _ (mkF m 84 #[.val (.int p0), .val (.int p1), .val (.int p2), .val (.int p3), .val (.int (p1 &&& (255 : Int32))), .val (.int (p2 &&& (255 : Int32))), .val (.int (p3 &&& (255 : Int32))), .val (.int (p0 &&& (3 : Int32)))] [(.ref b45)])) _
              refine S.dup X.here hx (hb hby d1_84) rfl ?_
              refine S.iconst X.here hx (2 : Int32) (hb hby d1_85) rfl ?_
              exact k)
          obtain ⟨b48, h48, k48, g48, E48, l48, A48, y48, w48⟩ := w47.newP hx (hw _ (List.mem_of_getElem? (i := 7) rfl)) rfl (hb hby d1_86) rfl (by decide) 2 (by decide) (by decide) (by decide) (by decide) (fun xq => (mkF m 88 #[.val (.int p0), .val (.int p1), .val (.int p2), .val (.int p3), .val (.int (p1 &&& (255 : Int32))), .val (.int (p2 &&& (255 : Int32))), .val (.int (p3 &&& (255 : Int32))), .val (.int (p0 &&& (3 : Int32)))] (.ref xq :: [(.ref b45), (.ref b45)]))) (fun _ => rfl)
          have z48 := E48.1
          have K49 : Keep h0 h48 [] := K46.ext E48
          have V48 : Arv Z h48 b48 k48 .char (2 : Int32) [(.int (0 : Int32)), (.int (0 : Int32))] (.int (0 : Int32)) := A48.pad (pad_rep [] (.int (0 : Int32)) 2)
          have w50 := w48.pure (mkF m 92 #[.val (.int p0), .val (.int p1), .val (.int p2), .val (.int p3), .val (.int (p1 &&& (255 : Int32))), .val (.int (p2 &&& (255 : Int32))), .val (.int (p3 &&& (255 : Int32))), .val (.int (p0 &&& (3 : Int32)))] [(.int (p1 &&& (255 : Int32))), (.int (0 : Int32)), (.ref b48), (.ref b48), (.ref b45), (.ref b45)]) (fun X eT hZ hown k => by
              show Steps _ _ _ (State.setTop _ (mkF m 88 #[.val (.int p0), .val (.int p1), .val (.int p2), .val (.int p3), .val (.int (p1 &&& (255 : Int32))), .val (.int (p2 &&& (255 : Int32))), .val (.int (p3 &&& (255 : Int32))), .val (.int (p0 &&& (3 : Int32)))] [(.ref b48), (.ref b45), (.ref b45)])) _
              refine S.dup X.here hx (hb hby d1_88) rfl ?_
              refine S.iconst X.here hx (0 : Int32) (hb hby d1_89) rfl ?_
              refine S.iload X.here hx (hb hby d1_90) rfl ?_
              exact k)
          obtain ⟨h51, W51, z51, V51, w51⟩ := w50.stC hx V48 0 rfl (Nat.le_of_ble_eq_true rfl) ⟨by decide, by decide⟩ rfl rfl (hb hby d1_92) (by omega) (mkF m 93 #[.val (.int p0), .val (.int p1), .val (.int p2), .val (.int p3), .val (.int (p1 &&& (255 : Int32))), .val (.int (p2 &&& (255 : Int32))), .val (.int (p3 &&& (255 : Int32))), .val (.int (p0 &&& (3 : Int32)))] [(.ref b48), (.ref b45), (.ref b45)]) rfl
          rw [nar_255] at V51
          have U51 : Arv Z h51 b48 k48 .char (2 : Int32) [(.int (p1 &&& (255 : Int32))), (.int (0 : Int32))] (.int (0 : Int32)) := V51
          have K52 : Keep h0 h51 [] := K49.wr W51 (Or.inr (by omega))
          have w53 := w51.pure (mkF m 97 #[.val (.int p0), .val (.int p1), .val (.int p2), .val (.int p3), .val (.int (p1 &&& (255 : Int32))), .val (.int (p2 &&& (255 : Int32))), .val (.int (p3 &&& (255 : Int32))), .val (.int (p0 &&& (3 : Int32)))] [(.int (p2 &&& (255 : Int32))), (.int (1 : Int32)), (.ref b48), (.ref b48), (.ref b45), (.ref b45)]) (fun X eT hZ hown k => by
              show Steps _ _ _ (State.setTop _ (mkF m 93 #[.val (.int p0), .val (.int p1), .val (.int p2), .val (.int p3), .val (.int (p1 &&& (255 : Int32))), .val (.int (p2 &&& (255 : Int32))), .val (.int (p3 &&& (255 : Int32))), .val (.int (p0 &&& (3 : Int32)))] [(.ref b48), (.ref b45), (.ref b45)])) _
              refine S.dup X.here hx (hb hby d1_93) rfl ?_
              refine S.iconst X.here hx (1 : Int32) (hb hby d1_94) rfl ?_
              refine S.iload X.here hx (hb hby d1_95) rfl ?_
              exact k)
          obtain ⟨h54, W54, z54, V54, w54⟩ := w53.stC hx U51 1 rfl (Nat.le_of_ble_eq_true rfl) ⟨by decide, by decide⟩ rfl rfl (hb hby d1_97) (by omega) (mkF m 98 #[.val (.int p0), .val (.int p1), .val (.int p2), .val (.int p3), .val (.int (p1 &&& (255 : Int32))), .val (.int (p2 &&& (255 : Int32))), .val (.int (p3 &&& (255 : Int32))), .val (.int (p0 &&& (3 : Int32)))] [(.ref b48), (.ref b45), (.ref b45)]) rfl
          rw [nar_255] at V54
          have U54 : Arv Z h54 b48 k48 .char (2 : Int32) [(.int (p1 &&& (255 : Int32))), (.int (p2 &&& (255 : Int32)))] (.int (0 : Int32)) := V54
          have K55 : Keep h0 h54 [] := K52.wr W54 (Or.inr (by omega))
          have F56 := A45.ext E48
          have F57 := F56.wr W51
          have F58 := F57.wr W54
          have F59 := D45_20.ext E48
          have F60 := F59.other W51 (Or.inl (nne (by omega)))
          have F61 := F60.other W54 (Or.inl (nne (by omega)))
          have F62 := D45_21.ext E48
          have F63 := F62.other W51 (Or.inl (nne (by omega)))
          have F64 := F63.other W54 (Or.inl (nne (by omega)))
          have F65 := X0.ext E45
          have F66 := F65.ext E48
          have F67 := F66.wr W51 (by omega)
          have F68 := F67.wr W54 (by omega)
          have r69 : ∀ c ∈ ([(p1 &&& (255 : Int32)), (p2 &&& (255 : Int32))] : List Int32), ¬ c < 0 ∧ ¬ (255 : Int32) < c := (List.forall_mem_cons.mpr ⟨(and255_rng _), (List.forall_mem_cons.mpr ⟨(and255_rng _), (fun _ q => nomatch q)⟩)⟩)
          have F71 := Safe.ext E48 w47.chv y45
          have F72 := Safe.wr W51 (Safe.arv w50.al V48 (by decide)) w50.chv F71
          have F73 := Safe.wr W54 (Safe.arv w53.al U51 (by decide)) w53.chv F72
          obtain ⟨v70, h70, Q70, K70, z70, w70⟩ := w54.callI hx (y := (⟨"java/lang/String", "<init>", "([C)V"⟩ : MethodName)) (W := 1) rfl (hw _ (List.mem_of_getElem? (i := 8) rfl)) (hw _ (List.mem_of_getElem? (i := 9) rfl)) (hw _ (List.mem_of_getElem? (i := 10) rfl)) (by decide) (payNew hG w54.hZ hq_backV (hw _ (List.mem_of_getElem? (i := 5) rfl)) [(p1 &&& (255 : Int32)), (p2 &&& (255 : Int32))] 2 (by omega) F58 F61 F64 U54 F68 rfl rfl (by decide) (by decide) r69 (by decide) (by decide)) rfl (by rw [hml]; rfl) [(.ref b45)] (lenOf pd_1 rfl) rfl (by show 2 * 0 + _ ≤ _; exact Nat.le_of_eq rfl) (hb hby d1_98) (by decide) (by decide) (sfS F73 sf0) (fun rv => (mkF m 101 #[.val (.int p0), .val (.int p1), .val (.int p2), .val (.int p3), .val (.int (p1 &&& (255 : Int32))), .val (.int (p2 &&& (255 : Int32))), .val (.int (p3 &&& (255 : Int32))), .val (.int (p0 &&& (3 : Int32)))] (rv.toList ++ [(.ref b45)]))) (fun _ => rfl)
          obtain ⟨rfl, G70⟩ := Q70
          have K74 : Keep h0 h70 [] := K55.trans K70 (allS (Or.inr (by omega)) (fun _ q => nomatch q))
          have lt_b45 := G70.lt
          exact w70.endW (v := some (.ref b45)) (Q := (fun v h => v = some .null ∨ ∃ x cs, v = some (.ref x) ∧ n0 ≤ x ∧ Str Z h x cs h.size)) (wr := []) (h0 := h0) (fun h => by rw [Bd.returns] at h; cases h) Bd.notSynchronized (fun X hr => X.areturnOut hx rfl Bd.returns rfl (hb hby d1_101) hr) (by decide) (by decide) (Or.inr ⟨b45, [(p1 &&& (255 : Int32)), (p2 &&& (255 : Int32))], rfl, by omega, G70.more (by omega)⟩) K74
        · have w75 := w42.pure (mkF m 102 #[.val (.int p0), .val (.int p1), .val (.int p2), .val (.int p3), .val (.int (p1 &&& (255 : Int32))), .val (.int (p2 &&& (255 : Int32))), .val (.int (p3 &&& (255 : Int32))), .val (.int (p0 &&& (3 : Int32)))] []) (fun X eT hZ hown k => by
              show Steps _ _ _ (State.setTop _ (mkF m 78 #[.val (.int p0), .val (.int p1), .val (.int p2), .val (.int p3), .val (.int (p1 &&& (255 : Int32))), .val (.int (p2 &&& (255 : Int32))), .val (.int (p3 &&& (255 : Int32))), .val (.int (p0 &&& (3 : Int32)))] [(.int (2 : Int32)), (.int (p0 &&& (3 : Int32)))])) _
              refine S.icmpYes X.here hx 102 (hb hby d1_78) (feq hc43).2 (by decide) (by decide) ?_
              exact k)
          obtain ⟨b76, h76, g76, E76, l76, A76, D76, y76, w76⟩ := w75.newO hx (hw _ (List.mem_of_getElem? (i := 4) rfl)) (hw _ (List.mem_of_getElem? (i := 5) rfl)) (hw _ (List.mem_of_getElem? (i := 6) rfl)) rfl (hb hby d1_102) (by decide) (by decide) (fun xq => (mkF m 105 #[.val (.int p0), .val (.int p1), .val (.int p2), .val (.int p3), .val (.int (p1 &&& (255 : Int32))), .val (.int (p2 &&& (255 : Int32))), .val (.int (p3 &&& (255 : Int32))), .val (.int (p0 &&& (3 : Int32)))] (.ref xq :: []))) (fun _ => rfl)
          have z76 := E76.1
          have K77 : Keep h0 h76 [] := K0.ext E76
          have D76_20 : Fld Z h76 b76 "java/lang/String" "value" "[B" .null := D76 (Or.inr (hw _ (List.mem_of_getElem? (i := 20) rfl))) (ty := (.array .byte)) (by decide)
          have D76_21 : Fld Z h76 b76 "java/lang/String" "coder" "B" (.int (0 : Int32)) := D76 (Or.inr (hw _ (List.mem_of_getElem? (i := 21) rfl))) (ty := .byte) (by decide)
          have w78 := w76.pure (mkF m 107 #[.val (.int p0), .val (.int p1), .val (.int p2), .val (.int p3), .val (.int (p1 &&& (255 : Int32))), .val (.int (p2 &&& (255 : Int32))), .val (.int (p3 &&& (255 : Int32))), .val (.int (p0 &&& (3 : Int32)))] [(.int (3 : Int32)), (.ref b76), (.ref b76)]) (fun X eT hZ hown k => by
              show Steps _ _ _ (State.setTop _ (mkF m 105 #[.val (.int p0), .val (.int p1), .val (.int p2), .val (.int p3), .val (.int (p1 &&& (255 : Int32))), .val (.int (p2 &&& (255 : Int32))), .val (.int (p3 &&& (255 : Int32))), .val (.int (p0 &&& (3 : Int32)))] [(.ref b76)])) _
              refine S.dup X.here hx (hb hby d1_105) rfl ?_
              refine S.iconst X.here hx (3 : Int32) (hb hby d1_106) rfl ?_
              exact k)
          obtain ⟨b79, h79, k79, g79, E79, l79, A79, y79, w79⟩ := w78.newP hx (hw _ (List.mem_of_getElem? (i := 7) rfl)) rfl (hb hby d1_107) rfl (by decide) 3 (by decide) (by decide) (by decide) (by decide) (fun xq => (mkF m 109 #[.val (.int p0), .val (.int p1), .val (.int p2), .val (.int p3), .val (.int (p1 &&& (255 : Int32))), .val (.int (p2 &&& (255 : Int32))), .val (.int (p3 &&& (255 : Int32))), .val (.int (p0 &&& (3 : Int32)))] (.ref xq :: [(.ref b76), (.ref b76)]))) (fun _ => rfl)
          have z79 := E79.1
          have K80 : Keep h0 h79 [] := K77.ext E79
          have V79 : Arv Z h79 b79 k79 .char (3 : Int32) [(.int (0 : Int32)), (.int (0 : Int32)), (.int (0 : Int32))] (.int (0 : Int32)) := A79.pad (pad_rep [] (.int (0 : Int32)) 3)
          have w81 := w79.pure (mkF m 113 #[.val (.int p0), .val (.int p1), .val (.int p2), .val (.int p3), .val (.int (p1 &&& (255 : Int32))), .val (.int (p2 &&& (255 : Int32))), .val (.int (p3 &&& (255 : Int32))), .val (.int (p0 &&& (3 : Int32)))] [(.int (p1 &&& (255 : Int32))), (.int (0 : Int32)), (.ref b79), (.ref b79), (.ref b76), (.ref b76)]) (fun X eT hZ hown k => by
              show Steps _ _ _ (State.setTop _ (mkF m 109 #[.val (.int p0), .val (.int p1), .val (.int p2), .val (.int p3), .val (.int (p1 &&& (255 : Int32))), .val (.int (p2 &&& (255 : Int32))), .val (.int (p3 &&& (255 : Int32))), .val (.int (p0 &&& (3 : Int32)))] [(.ref b79), (.ref b76), (.ref b76)])) _
              refine S.dup X.here hx (hb hby d1_109) rfl ?_
              refine S.iconst X.here hx (0 : Int32) (hb hby d1_110) rfl ?_
              refine S.iload X.here hx (hb hby d1_111) rfl ?_
              exact k)
          obtain ⟨h82, W82, z82, V82, w82⟩ := w81.stC hx V79 0 rfl (Nat.le_of_ble_eq_true rfl) ⟨by decide, by decide⟩ rfl rfl (hb hby d1_113) (by omega) (mkF m 114 #[.val (.int p0), .val (.int p1), .val (.int p2), .val (.int p3), .val (.int (p1 &&& (255 : Int32))), .val (.int (p2 &&& (255 : Int32))), .val (.int (p3 &&& (255 : Int32))), .val (.int (p0 &&& (3 : Int32)))] [(.ref b79), (.ref b76), (.ref b76)]) rfl
          rw [nar_255] at V82
          have U82 : Arv Z h82 b79 k79 .char (3 : Int32) [(.int (p1 &&& (255 : Int32))), (.int (0 : Int32)), (.int (0 : Int32))] (.int (0 : Int32)) := V82
          have K83 : Keep h0 h82 [] := K80.wr W82 (Or.inr (by omega))
          have w84 := w82.pure (mkF m 118 #[.val (.int p0), .val (.int p1), .val (.int p2), .val (.int p3), .val (.int (p1 &&& (255 : Int32))), .val (.int (p2 &&& (255 : Int32))), .val (.int (p3 &&& (255 : Int32))), .val (.int (p0 &&& (3 : Int32)))] [(.int (p2 &&& (255 : Int32))), (.int (1 : Int32)), (.ref b79), (.ref b79), (.ref b76), (.ref b76)]) (fun X eT hZ hown k => by
              show Steps _ _ _ (State.setTop _ (mkF m 114 #[.val (.int p0), .val (.int p1), .val (.int p2), .val (.int p3), .val (.int (p1 &&& (255 : Int32))), .val (.int (p2 &&& (255 : Int32))), .val (.int (p3 &&& (255 : Int32))), .val (.int (p0 &&& (3 : Int32)))] [(.ref b79), (.ref b76), (.ref b76)])) _
              refine S.dup X.here hx (hb hby d1_114) rfl ?_
              refine S.iconst X.here hx (1 : Int32) (hb hby d1_115) rfl ?_
              refine S.iload X.here hx (hb hby d1_116) rfl ?_
              exact k)
          obtain ⟨h85, W85, z85, V85, w85⟩ := w84.stC hx U82 1 rfl (Nat.le_of_ble_eq_true rfl) ⟨by decide, by decide⟩ rfl rfl (hb hby d1_118) (by omega) (mkF m 119 #[.val (.int p0), .val (.int p1), .val (.int p2), .val (.int p3), .val (.int (p1 &&& (255 : Int32))), .val (.int (p2 &&& (255 : Int32))), .val (.int (p3 &&& (255 : Int32))), .val (.int (p0 &&& (3 : Int32)))] [(.ref b79), (.ref b76), (.ref b76)]) rfl
          rw [nar_255] at V85
          have U85 : Arv Z h85 b79 k79 .char (3 : Int32) [(.int (p1 &&& (255 : Int32))), (.int (p2 &&& (255 : Int32))), (.int (0 : Int32))] (.int (0 : Int32)) := V85
          have K86 : Keep h0 h85 [] := K83.wr W85 (Or.inr (by omega))
          have w87 := w85.pure (mkF m 123 #[.val (.int p0), .val (.int p1), .val (.int p2), .val (.int p3), .val (.int (p1 &&& (255 : Int32))), .val (.int (p2 &&& (255 : Int32))), .val (.int (p3 &&& (255 : Int32))), .val (.int (p0 &&& (3 : Int32)))] [(.int (p3 &&& (255 : Int32))), (.int (2 : Int32)), (.ref b79), (.ref b79), (.ref b76), (.ref b76)]) (fun X eT hZ hown k => by
              show Steps _ _ _ (State.setTop _ (mkF m 119 #[.val (.int p0), .val (.int p1), .val (.int p2), .val (.int p3), .val (.int (p1 &&& (255 : Int32))), .val (.int (p2 &&& (255 : Int32))), .val (.int (p3 &&& (255 : Int32))), .val (.int (p0 &&& (3 : Int32)))] [(.ref b79), (.ref b76), (.ref b76)])) _
              refine S.dup X.here hx (hb hby d1_119) rfl ?_
              refine S.iconst X.here hx (2 : Int32) (hb hby d1_120) rfl ?_
              refine S.iload X.here hx (hb hby d1_121) rfl ?_
              exact k)
          obtain ⟨h88, W88, z88, V88, w88⟩ := w87.stC hx U85 2 rfl (Nat.le_of_ble_eq_true rfl) ⟨by decide, by decide⟩ rfl rfl (hb hby d1_123) (by omega) (mkF m 124 #[.val (.int p0), .val (.int p1), .val (.int p2), .val (.int p3), .val (.int (p1 &&& (255 : Int32))), .val (.int (p2 &&& (255 : Int32))), .val (.int (p3 &&& (255 : Int32))), .val (.int (p0 &&& (3 : Int32)))] [(.ref b79), (.ref b76), (.ref b76)]) rfl
          rw [nar_255] at V88
          have U88 : Arv Z h88 b79 k79 .char (3 : Int32) [(.int (p1 &&& (255 : Int32))), (.int (p2 &&& (255 : Int32))), (.int (p3 &&& (255 : Int32)))] (.int (0 : Int32)) := V88
          have K89 : Keep h0 h88 [] := K86.wr W88 (Or.inr (by omega))
          have F90 := A76.ext E79
          have F91 := F90.wr W82
          have F92 := F91.wr W85
          have F93 := F92.wr W88
          have F94 := D76_20.ext E79
          have F95 := F94.other W82 (Or.inl (nne (by omega)))
          have F96 := F95.other W85 (Or.inl (nne (by omega)))
          have F97 := F96.other W88 (Or.inl (nne (by omega)))
          have F98 := D76_21.ext E79
          have F99 := F98.other W82 (Or.inl (nne (by omega)))
          have F100 := F99.other W85 (Or.inl (nne (by omega)))
          have F101 := F100.other W88 (Or.inl (nne (by omega)))
          have F102 := X0.ext E76
          have F103 := F102.ext E79
          have F104 := F103.wr W82 (by omega)
          have F105 := F104.wr W85 (by omega)
          have F106 := F105.wr W88 (by omega)
          have r107 : ∀ c ∈ ([(p1 &&& (255 : Int32)), (p2 &&& (255 : Int32)), (p3 &&& (255 : Int32))] : List Int32), ¬ c < 0 ∧ ¬ (255 : Int32) < c := (List.forall_mem_cons.mpr ⟨(and255_rng _), (List.forall_mem_cons.mpr ⟨(and255_rng _), (List.forall_mem_cons.mpr ⟨(and255_rng _), (fun _ q => nomatch q)⟩)⟩)⟩)
          have F109 := Safe.ext E79 w78.chv y76
          have F110 := Safe.wr W82 (Safe.arv w81.al V79 (by decide)) w81.chv F109
          have F111 := Safe.wr W85 (Safe.arv w84.al U82 (by decide)) w84.chv F110
          have F112 := Safe.wr W88 (Safe.arv w87.al U85 (by decide)) w87.chv F111
          obtain ⟨v108, h108, Q108, K108, z108, w108⟩ := w88.callI hx (y := (⟨"java/lang/String", "<init>", "([C)V"⟩ : MethodName)) (W := 1) rfl (hw _ (List.mem_of_getElem? (i := 8) rfl)) (hw _ (List.mem_of_getElem? (i := 9) rfl)) (hw _ (List.mem_of_getElem? (i := 10) rfl)) (by decide) (payNew hG w88.hZ hq_backV (hw _ (List.mem_of_getElem? (i := 5) rfl)) [(p1 &&& (255 : Int32)), (p2 &&& (255 : Int32)), (p3 &&& (255 : Int32))] 3 (by omega) F93 F97 F101 U88 F106 rfl rfl (by decide) (by decide) r107 (by decide) (by decide)) rfl (by rw [hml]; rfl) [(.ref b76)] (lenOf pd_1 rfl) rfl (by show 2 * 0 + _ ≤ _; exact Nat.le_of_eq rfl) (hb hby d1_124) (by decide) (by decide) (sfS F112 sf0) (fun rv => (mkF m 127 #[.val (.int p0), .val (.int p1), .val (.int p2), .val (.int p3), .val (.int (p1 &&& (255 : Int32))), .val (.int (p2 &&& (255 : Int32))), .val (.int (p3 &&& (255 : Int32))), .val (.int (p0 &&& (3 : Int32)))] (rv.toList ++ [(.ref b76)]))) (fun _ => rfl)
          obtain ⟨rfl, G108⟩ := Q108
          have K113 : Keep h0 h108 [] := K89.trans K108 (allS (Or.inr (by omega)) (fun _ q => nomatch q))
          have lt_b76 := G108.lt
          exact w108.endW (v := some (.ref b76)) (Q := (fun v h => v = some .null ∨ ∃ x cs, v = some (.ref x) ∧ n0 ≤ x ∧ Str Z h x cs h.size)) (wr := []) (h0 := h0) (fun h => by rw [Bd.returns] at h; cases h) Bd.notSynchronized (fun X hr => X.areturnOut hx rfl Bd.returns rfl (hb hby d1_127) hr) (by decide) (by decide) (Or.inr ⟨b76, [(p1 &&& (255 : Int32)), (p2 &&& (255 : Int32)), (p3 &&& (255 : Int32))], rfl, by omega, G108.more (by omega)⟩) K113
  · have w114 := w1.pure (mkF m 7 #[.val (.int p0), .val (.int p1), .val (.int p2), .val (.int p3), .unset, .unset, .unset, .unset] [.null]) (fun X eT hZ hown k => by
        show Steps _ _ _ (State.setTop _ (mkF m 3 #[.val (.int p0), .val (.int p1), .val (.int p2), .val (.int p3), .unset, .unset, .unset, .unset] [(.int (p0 &&& (4 : Int32)))])) _
        refine S.ifNo X.here hx (hb hby d1_3) ((if0 _ _).trans (feq hc2).1) ?_
        refine S.aconstNull X.here hx (hb hby d1_6) ?_
        exact k)
    exact w114.endW (v := some .null) (Q := (fun v h => v = some .null ∨ ∃ x cs, v = some (.ref x) ∧ n0 ≤ x ∧ Str Z h x cs h.size)) (wr := []) (h0 := h0) (fun h => by rw [Bd.returns] at h; cases h) Bd.notSynchronized (fun X hr => X.areturnOut hx rfl Bd.returns rfl (hb hby d1_7) hr) (by decide) (by decide) (Or.inl rfl) K0
theorem dri_0 : decode jdk_30_method_1_code 0 = .ok (.aload_n 0, 1) := by decide +kernel
theorem dri_1 : decode jdk_30_method_1_code 1 = .ok (.invokespecial 1, 3) := by decide +kernel
theorem dri_4 : decode jdk_30_method_1_code 4 = .ok (.return_, 1) := by decide +kernel
theorem efri (m : MethodId) (x0 : Nat) : entryFrame m #[(.ref x0)] 1 = mkF m 0 #[.val (.ref x0)] [] := by first | rfl | (simp [entryFrame, mkF, argsToLocals, Value.category, maxLocals]; done)
theorem pn_3 : plainFor (⟨"java/lang/Record", "<init>", "()V"⟩ : MethodName) = true := by first | decide +kernel | (apply plainFor_of_name; simp [plainName, overriddenIn]; done)
set_option maxRecDepth 65536 in
set_option maxHeartbeats 40000000 in
theorem rmri (l : Launch) (Z : State) (a0 : Array Value) (hw : ∀ d ∈ tables_1, d.before a0 Z = true) (a : Nat) (h0 : Heap) (n0 : Nat) (Z0 : n0 ≤ h0.size)  :
    NMet l Z (⟨"java/lang/Record", "<init>", "()V"⟩ : MethodName) jdk_30_method_1_code 1 none [] ({ frames := 1, cells := 0, slots := 0, locals := 12 } : Room) [(.ref a)] h0 n0 [] (fun v h => v = none ∧ h0 = h) := by
  refine MetFree.of_bodySF pn_3 hisR ?_
  intro p e s m args below meth c s₁ Bd hml0 hP hK
  obtain ⟨rfl, hZ, hh⟩ := hP
  have hx := Bd.exec
  have hby := Bd.bytes
  have hml : c.maxLocals = 1 := hml0
  have hnm := (name_of_methodNamed Bd.named Bd.method).1
  have w0 := Wk.start (a0 := a0) (EL := []) (n0 := n0) (nw := true) Bd hZ hh EW.nil chv0 (efri m a) ({ frames := 1, cells := 0, slots := 0, locals := 12 } : Room) rfl
  have K0 : Keep h0 h0 [] := Keep.refl _ _
  have w1 := w0.pure (mkF m 1 #[.val (.ref a)] [(.ref a)]) (fun X eT hZ hown k => by
      show Steps _ _ _ (State.setTop _ (mkF m 0 #[.val (.ref a)] [])) _
      refine S.aloadN X.here hx (hb hby dri_0) rfl rfl ?_
      exact k)
  have w2 := w1.same (mkF m 4 #[.val (.ref a)] []) (fun X eT hZ hown => initO X hx hZ hown (hw _ (List.mem_of_getElem? (i := 43) rfl)) (hw _ (List.mem_of_getElem? (i := 16) rfl)) (hw _ (List.mem_of_getElem? (i := 17) rfl)) eT (g := (mkF m 1 #[.val (.ref a)] [(.ref a)])) rfl (by rw [hml]; rfl) rfl (hb hby dri_1) (by decide) (W := 0) (by show 2 * 0 + _ ≤ _; exact Nat.le_of_eq rfl) (by decide))
  exact w2.endN (v := none) (Q := (fun v h => v = none ∧ h0 = h)) (wr := []) (h0 := h0) (fun _ => rfl) Bd.notSynchronized (fun X hr => X.returnOut hx Bd.returns (hb hby dri_4) hr) (by decide) (by decide) ⟨rfl, rfl⟩ K0
theorem pd_2 : parseMethodDescriptor "()V" = some ⟨[], none⟩ := by decide +kernel
theorem d6_0 : decode prog_45_method_1_code 0 = .ok (.aload_n 0, 1) := by decide +kernel
theorem d6_1 : decode prog_45_method_1_code 1 = .ok (.invokespecial 1, 3) := by decide +kernel
theorem d6_4 : decode prog_45_method_1_code 4 = .ok (.aload_n 0, 1) := by decide +kernel
theorem d6_5 : decode prog_45_method_1_code 5 = .ok (.aload_n 1, 1) := by decide +kernel
theorem d6_6 : decode prog_45_method_1_code 6 = .ok (.putfield 7, 3) := by decide +kernel
theorem d6_9 : decode prog_45_method_1_code 9 = .ok (.aload_n 0, 1) := by decide +kernel
theorem d6_10 : decode prog_45_method_1_code 10 = .ok (.aload_n 2, 1) := by decide +kernel
theorem d6_11 : decode prog_45_method_1_code 11 = .ok (.putfield 13, 3) := by decide +kernel
theorem d6_14 : decode prog_45_method_1_code 14 = .ok (.aload_n 0, 1) := by decide +kernel
theorem d6_15 : decode prog_45_method_1_code 15 = .ok (.aload_n 3, 1) := by decide +kernel
theorem d6_16 : decode prog_45_method_1_code 16 = .ok (.putfield 17, 3) := by decide +kernel
theorem d6_19 : decode prog_45_method_1_code 19 = .ok (.aload_n 0, 1) := by decide +kernel
theorem d6_20 : decode prog_45_method_1_code 20 = .ok (.aload 4, 2) := by decide +kernel
theorem d6_22 : decode prog_45_method_1_code 22 = .ok (.putfield 20, 3) := by decide +kernel
theorem d6_25 : decode prog_45_method_1_code 25 = .ok (.return_, 1) := by decide +kernel
theorem ef6 (m : MethodId) (x0 : Nat) (x1 : Nat) (x2 : Value) (q2 : x2.isRef = true) : entryFrame m #[(.ref x0), (.ref x1), x2, .null, .null] 5 = mkF m 0 #[.val (.ref x0), .val (.ref x1), .val x2, .val .null, .val .null] [] := by rcases ref_cases q2 with rfl | ⟨_, rfl⟩ <;> first | rfl | (simp [entryFrame, mkF, argsToLocals, Value.category, maxLocals]; done)
theorem pn_4 : plainFor (⟨"com/example/unified_lexicon/unifiedlexicon/formats/RdfXml$Term", "<init>", "(Lcom/example/unified_lexicon/unifiedlexicon/formats/RdfXml$Term$Kind;Ljava/lang/String;Ljava/lang/String;Ljava/lang/String;)V"⟩ : MethodName) = true := by first | decide +kernel | (apply plainFor_of_name; simp [plainName, overriddenIn]; done)
set_option maxRecDepth 65536 in
set_option maxHeartbeats 40000000 in
theorem rm6 (l : Launch) (Z : State) (a0 : Array Value) (hw : ∀ d ∈ tables_1, d.before a0 Z = true) (a : Nat) (o : Nat) (u : Value) (qu : u.isRef = true) (h0 : Heap) (n0 : Nat) (Z0 : n0 ≤ h0.size) (ga : n0 ≤ a) (E0 : Exa Z h0 a "com/example/unified_lexicon/unifiedlexicon/formats/RdfXml$Term") (F00 : Fld Z h0 a "com/example/unified_lexicon/unifiedlexicon/formats/RdfXml$Term" "kind" "Lcom/example/unified_lexicon/unifiedlexicon/formats/RdfXml$Term$Kind;" .null) (F01 : Fld Z h0 a "com/example/unified_lexicon/unifiedlexicon/formats/RdfXml$Term" "value" "Ljava/lang/String;" .null) (F02 : Fld Z h0 a "com/example/unified_lexicon/unifiedlexicon/formats/RdfXml$Term" "language" "Ljava/lang/String;" .null) (F03 : Fld Z h0 a "com/example/unified_lexicon/unifiedlexicon/formats/RdfXml$Term" "datatype" "Ljava/lang/String;" .null) :
    NMet l Z (⟨"com/example/unified_lexicon/unifiedlexicon/formats/RdfXml$Term", "<init>", "(Lcom/example/unified_lexicon/unifiedlexicon/formats/RdfXml$Term$Kind;Ljava/lang/String;Ljava/lang/String;Ljava/lang/String;)V"⟩ : MethodName) prog_45_method_1_code 5 none [] ({ frames := 2, cells := 0, slots := 0, locals := 24 } : Room) [(.ref a), (.ref o), u, .null, .null] h0 n0 [a] (fun r h => r = none ∧ Exa Z h a "com/example/unified_lexicon/unifiedlexicon/formats/RdfXml$Term" ∧ Fld Z h a "com/example/unified_lexicon/unifiedlexicon/formats/RdfXml$Term" "kind" "Lcom/example/unified_lexicon/unifiedlexicon/formats/RdfXml$Term$Kind;" (.ref o) ∧ Fld Z h a "com/example/unified_lexicon/unifiedlexicon/formats/RdfXml$Term" "value" "Ljava/lang/String;" u ∧ Fld Z h a "com/example/unified_lexicon/unifiedlexicon/formats/RdfXml$Term" "language" "Ljava/lang/String;" .null ∧ Fld Z h a "com/example/unified_lexicon/unifiedlexicon/formats/RdfXml$Term" "datatype" "Ljava/lang/String;" .null) := by
  refine MetFree.of_bodySF pn_4 hisR ?_
  intro p e s m args below meth c s₁ Bd hml0 hP hK
  obtain ⟨rfl, hZ, hh⟩ := hP
  have hx := Bd.exec
  have hby := Bd.bytes
  have hml : c.maxLocals = 5 := hml0
  have hnm := (name_of_methodNamed Bd.named Bd.method).1
  have w0 := Wk.start (a0 := a0) (EL := []) (n0 := n0) (nw := true) Bd hZ hh EW.nil chv0 (ef6 m a o u qu) ({ frames := 2, cells := 0, slots := 0, locals := 24 } : Room) rfl
  have K0 : Keep h0 h0 [a] := Keep.refl _ _
  have lt_E0 := exlt E0
  have w1 := w0.pure (mkF m 1 #[.val (.ref a), .val (.ref o), .val u, .val .null, .val .null] [(.ref a)]) (fun X eT hZ hown k => by
      show Steps _ _ _ (State.setTop _ (mkF m 0 #[.val (.ref a), .val (.ref o), .val u, .val .null, .val .null] [])) _
      refine S.aloadN X.here hx (hb hby d6_0) rfl rfl ?_
      exact k)
  obtain ⟨v2, h2, Q2, K2, z2, w2⟩ := w1.callI hx (y := (⟨"java/lang/Record", "<init>", "()V"⟩ : MethodName)) (W := 0) rfl (hw _ (List.mem_of_getElem? (i := 38) rfl)) (hw _ (List.mem_of_getElem? (i := 39) rfl)) (hw _ (List.mem_of_getElem? (i := 42) rfl)) (by decide) ((rmri l Z a0 hw a h0 n0 (by omega) ).pay w1.hZ (hw _ (List.mem_of_getElem? (i := 42) rfl)) (hw _ (List.mem_of_getElem? (i := 41) rfl)) (by decide) (by decide)) rfl (by rw [hml]; rfl) [] (lenOf pd_2 rfl) rfl (by show 2 * 0 + _ ≤ _; exact Nat.le_of_eq rfl) (hb hby d6_1) (by decide) (by decide) (fun _ q => nomatch q) (fun rv => (mkF m 4 #[.val (.ref a), .val (.ref o), .val u, .val .null, .val .null] (rv.toList ++ []))) (fun _ => rfl)
  obtain ⟨rfl, rfl⟩ := Q2
  have w3 := w2.pure (mkF m 6 #[.val (.ref a), .val (.ref o), .val u, .val .null, .val .null] [(.ref o), (.ref a)]) (fun X eT hZ hown k => by
      show Steps _ _ _ (State.setTop _ (mkF m 4 #[.val (.ref a), .val (.ref o), .val u, .val .null, .val .null] [])) _
      refine S.aloadN X.here hx (hb hby d6_4) rfl rfl ?_
      refine S.aloadN X.here hx (hb hby d6_5) rfl rfl ?_
      exact k)
  obtain ⟨h4, W4, z4, F4, w4⟩ := w3.putF hx (host := "") (Or.inl (hw _ (List.mem_of_getElem? (i := 44) rfl))) Via.refl F00 E0 (Or.inr ⟨(hw _ (List.mem_of_getElem? (i := 45) rfl)), rfl, hnm⟩) (hw _ (List.mem_of_getElem? (i := 31) rfl)) (ty := (.object "com/example/unified_lexicon/unifiedlexicon/formats/RdfXml$Term$Kind")) (by decide) rfl rfl rfl rfl (hb hby d6_6) (by omega) safe0 (mkF m 9 #[.val (.ref a), .val (.ref o), .val u, .val .null, .val .null] []) rfl
  have K5 : Keep h0 h4 [a] := K0.wr W4 (Or.inl (List.mem_of_getElem? (i := 0) rfl))
  have w6 := w4.pure (mkF m 11 #[.val (.ref a), .val (.ref o), .val u, .val .null, .val .null] [u, (.ref a)]) (fun X eT hZ hown k => by
      show Steps _ _ _ (State.setTop _ (mkF m 9 #[.val (.ref a), .val (.ref o), .val u, .val .null, .val .null] [])) _
      refine S.aloadN X.here hx (hb hby d6_9) rfl rfl ?_
      refine S.aloadN X.here hx (hb hby d6_10) rfl qu ?_
      exact k)
  have F7 := F01.other W4 (Or.inr (slot_ne (Or.inr (hw _ (List.mem_of_getElem? (i := 47) rfl))) (Or.inr (hw _ (List.mem_of_getElem? (i := 45) rfl))) (by decide) (t := (.object "java/lang/String")) (t' := (.object "com/example/unified_lexicon/unifiedlexicon/formats/RdfXml$Term$Kind")) (by decide) (by decide)))
  have F8 := E0.wr W4
  obtain ⟨h9, W9, z9, F9, w9⟩ := w6.putF hx (host := "") (Or.inl (hw _ (List.mem_of_getElem? (i := 46) rfl))) Via.refl F7 F8 (Or.inr ⟨(hw _ (List.mem_of_getElem? (i := 47) rfl)), rfl, hnm⟩) (hw _ (List.mem_of_getElem? (i := 31) rfl)) (ty := (.object "java/lang/String")) (by decide) (by rcases ref_cases qu with q | ⟨_, q⟩ <;> rw [q] <;> rfl) (by rcases ref_cases qu with q | ⟨_, q⟩ <;> rw [q] <;> rfl) rfl rfl (hb hby d6_11) (by omega) safe0 (mkF m 14 #[.val (.ref a), .val (.ref o), .val u, .val .null, .val .null] []) rfl
  have K10 : Keep h0 h9 [a] := K5.wr W9 (Or.inl (List.mem_of_getElem? (i := 0) rfl))
  have w11 := w9.pure (mkF m 16 #[.val (.ref a), .val (.ref o), .val u, .val .null, .val .null] [.null, (.ref a)]) (fun X eT hZ hown k => by
      show Steps _ _ _ (State.setTop _ (mkF m 14 #[.val (.ref a), .val (.ref o), .val u, .val .null, .val .null] [])) _
      refine S.aloadN X.here hx (hb hby d6_14) rfl rfl ?_
      refine S.aloadN X.here hx (hb hby d6_15) rfl rfl ?_
      exact k)
  have F12 := F02.other W4 (Or.inr (slot_ne (Or.inr (hw _ (List.mem_of_getElem? (i := 49) rfl))) (Or.inr (hw _ (List.mem_of_getElem? (i := 45) rfl))) (by decide) (t := (.object "java/lang/String")) (t' := (.object "com/example/unified_lexicon/unifiedlexicon/formats/RdfXml$Term$Kind")) (by decide) (by decide)))
  have F13 := F12.other W9 (Or.inr (slot_ne (Or.inr (hw _ (List.mem_of_getElem? (i := 49) rfl))) (Or.inr (hw _ (List.mem_of_getElem? (i := 47) rfl))) (by decide) (t := (.object "java/lang/String")) (t' := (.object "java/lang/String")) (by decide) (by decide)))
  have F14 := F8.wr W9
  obtain ⟨h15, W15, z15, F15, w15⟩ := w11.putF hx (host := "") (Or.inl (hw _ (List.mem_of_getElem? (i := 48) rfl))) Via.refl F13 F14 (Or.inr ⟨(hw _ (List.mem_of_getElem? (i := 49) rfl)), rfl, hnm⟩) (hw _ (List.mem_of_getElem? (i := 31) rfl)) (ty := (.object "java/lang/String")) (by decide) rfl rfl rfl rfl (hb hby d6_16) (by omega) safe0 (mkF m 19 #[.val (.ref a), .val (.ref o), .val u, .val .null, .val .null] []) rfl
  have K16 : Keep h0 h15 [a] := K10.wr W15 (Or.inl (List.mem_of_getElem? (i := 0) rfl))
  have w17 := w15.pure (mkF m 22 #[.val (.ref a), .val (.ref o), .val u, .val .null, .val .null] [.null, (.ref a)]) (fun X eT hZ hown k => by
      show Steps _ _ _ (State.setTop _ (mkF m 19 #[.val (.ref a), .val (.ref o), .val u, .val .null, .val .null] [])) _
      refine S.aloadN X.here hx (hb hby d6_19) rfl rfl ?_
      refine S.aload X.here hx (hb hby d6_20) rfl rfl ?_
      exact k)
  have F18 := F03.other W4 (Or.inr (slot_ne (Or.inr (hw _ (List.mem_of_getElem? (i := 51) rfl))) (Or.inr (hw _ (List.mem_of_getElem? (i := 45) rfl))) (by decide) (t := (.object "java/lang/String")) (t' := (.object "com/example/unified_lexicon/unifiedlexicon/formats/RdfXml$Term$Kind")) (by decide) (by decide)))
  have F19 := F18.other W9 (Or.inr (slot_ne (Or.inr (hw _ (List.mem_of_getElem? (i := 51) rfl))) (Or.inr (hw _ (List.mem_of_getElem? (i := 47) rfl))) (by decide) (t := (.object "java/lang/String")) (t' := (.object "java/lang/String")) (by decide) (by decide)))
  have F20 := F19.other W15 (Or.inr (slot_ne (Or.inr (hw _ (List.mem_of_getElem? (i := 51) rfl))) (Or.inr (hw _ (List.mem_of_getElem? (i := 49) rfl))) (by decide) (t := (.object "java/lang/String")) (t' := (.object "java/lang/String")) (by decide) (by decide)))
  have F21 := F14.wr W15
  obtain ⟨h22, W22, z22, F22, w22⟩ := w17.putF hx (host := "") (Or.inl (hw _ (List.mem_of_getElem? (i := 50) rfl))) Via.refl F20 F21 (Or.inr ⟨(hw _ (List.mem_of_getElem? (i := 51) rfl)), rfl, hnm⟩) (hw _ (List.mem_of_getElem? (i := 31) rfl)) (ty := (.object "java/lang/String")) (by decide) rfl rfl rfl rfl (hb hby d6_22) (by omega) safe0 (mkF m 25 #[.val (.ref a), .val (.ref o), .val u, .val .null, .val .null] []) rfl
  have K23 : Keep h0 h22 [a] := K16.wr W22 (Or.inl (List.mem_of_getElem? (i := 0) rfl))
  have F24 := F21.wr W22
  have F25 := F4.other W9 (Or.inr (slot_ne (Or.inr (hw _ (List.mem_of_getElem? (i := 45) rfl))) (Or.inr (hw _ (List.mem_of_getElem? (i := 47) rfl))) (by decide) (t := (.object "com/example/unified_lexicon/unifiedlexicon/formats/RdfXml$Term$Kind")) (t' := (.object "java/lang/String")) (by decide) (by decide)))
  have F26 := F25.other W15 (Or.inr (slot_ne (Or.inr (hw _ (List.mem_of_getElem? (i := 45) rfl))) (Or.inr (hw _ (List.mem_of_getElem? (i := 49) rfl))) (by decide) (t := (.object "com/example/unified_lexicon/unifiedlexicon/formats/RdfXml$Term$Kind")) (t' := (.object "java/lang/String")) (by decide) (by decide)))
  have F27 := F26.other W22 (Or.inr (slot_ne (Or.inr (hw _ (List.mem_of_getElem? (i := 45) rfl))) (Or.inr (hw _ (List.mem_of_getElem? (i := 51) rfl))) (by decide) (t := (.object "com/example/unified_lexicon/unifiedlexicon/formats/RdfXml$Term$Kind")) (t' := (.object "java/lang/String")) (by decide) (by decide)))
  have F28 := F9.other W15 (Or.inr (slot_ne (Or.inr (hw _ (List.mem_of_getElem? (i := 47) rfl))) (Or.inr (hw _ (List.mem_of_getElem? (i := 49) rfl))) (by decide) (t := (.object "java/lang/String")) (t' := (.object "java/lang/String")) (by decide) (by decide)))
  have F29 := F28.other W22 (Or.inr (slot_ne (Or.inr (hw _ (List.mem_of_getElem? (i := 47) rfl))) (Or.inr (hw _ (List.mem_of_getElem? (i := 51) rfl))) (by decide) (t := (.object "java/lang/String")) (t' := (.object "java/lang/String")) (by decide) (by decide)))
  have F30 := F15.other W22 (Or.inr (slot_ne (Or.inr (hw _ (List.mem_of_getElem? (i := 49) rfl))) (Or.inr (hw _ (List.mem_of_getElem? (i := 51) rfl))) (by decide) (t := (.object "java/lang/String")) (t' := (.object "java/lang/String")) (by decide) (by decide)))
  exact w22.endN (v := none) (Q := (fun r h => r = none ∧ Exa Z h a "com/example/unified_lexicon/unifiedlexicon/formats/RdfXml$Term" ∧ Fld Z h a "com/example/unified_lexicon/unifiedlexicon/formats/RdfXml$Term" "kind" "Lcom/example/unified_lexicon/unifiedlexicon/formats/RdfXml$Term$Kind;" (.ref o) ∧ Fld Z h a "com/example/unified_lexicon/unifiedlexicon/formats/RdfXml$Term" "value" "Ljava/lang/String;" u ∧ Fld Z h a "com/example/unified_lexicon/unifiedlexicon/formats/RdfXml$Term" "language" "Ljava/lang/String;" .null ∧ Fld Z h a "com/example/unified_lexicon/unifiedlexicon/formats/RdfXml$Term" "datatype" "Ljava/lang/String;" .null)) (wr := [a]) (h0 := h0) (fun _ => rfl) Bd.notSynchronized (fun X hr => X.returnOut hx Bd.returns (hb hby d6_25) hr) (by decide) (by decide) ⟨rfl, F24, F27, F29, F30, F22⟩ K23
theorem pd_3 : parseMethodDescriptor "(Lcom/example/unified_lexicon/unifiedlexicon/formats/RdfXml$Term$Kind;Ljava/lang/String;Ljava/lang/String;Ljava/lang/String;)V" = some ⟨[(.object "com/example/unified_lexicon/unifiedlexicon/formats/RdfXml$Term$Kind"), (.object "java/lang/String"), (.object "java/lang/String"), (.object "java/lang/String")], none⟩ := by decide +kernel
theorem d5_0 : decode prog_45_method_2_code 0 = .ok (.new 8, 3) := by decide +kernel
theorem d5_3 : decode prog_45_method_2_code 3 = .ok (.dup, 1) := by decide +kernel
theorem d5_4 : decode prog_45_method_2_code 4 = .ok (.getstatic 23, 3) := by decide +kernel
theorem d5_7 : decode prog_45_method_2_code 7 = .ok (.aload_n 0, 1) := by decide +kernel
theorem d5_8 : decode prog_45_method_2_code 8 = .ok (.aconst_null, 1) := by decide +kernel
theorem d5_9 : decode prog_45_method_2_code 9 = .ok (.aconst_null, 1) := by decide +kernel
theorem d5_10 : decode prog_45_method_2_code 10 = .ok (.invokespecial 28, 3) := by decide +kernel
theorem d5_13 : decode prog_45_method_2_code 13 = .ok (.areturn, 1) := by decide +kernel
theorem ef5 (m : MethodId) (x0 : Value) (q0 : x0.isRef = true) : entryFrame m #[x0] 1 = mkF m 0 #[.val x0] [] := by rcases ref_cases q0 with rfl | ⟨_, rfl⟩ <;> first | rfl | (simp [entryFrame, mkF, argsToLocals, Value.category, maxLocals]; done)
theorem pn_5 : plainFor (⟨"com/example/unified_lexicon/unifiedlexicon/formats/RdfXml$Term", "iri", "(Ljava/lang/String;)Lcom/example/unified_lexicon/unifiedlexicon/formats/RdfXml$Term;"⟩ : MethodName) = true := by first | decide +kernel | (apply plainFor_of_name; simp [plainName, overriddenIn]; done)
set_option maxRecDepth 65536 in
set_option maxHeartbeats 40000000 in
theorem rm5 (l : Launch) (Z : State) (a0 : Array Value) (hw : ∀ d ∈ tables_1, d.before a0 Z = true) (u : Value) (qu : u.isRef = true) (o : Nat) (h0 : Heap) (n0 : Nat) (Z0 : n0 ≤ h0.size) (SO : Sta Z Z.heap "com/example/unified_lexicon/unifiedlexicon/formats/RdfXml$Term$Kind" "IRI" "Lcom/example/unified_lexicon/unifiedlexicon/formats/RdfXml$Term$Kind;" (.ref o)) (X0 : Old Z n0 h0) :
    NMet l Z (⟨"com/example/unified_lexicon/unifiedlexicon/formats/RdfXml$Term", "iri", "(Ljava/lang/String;)Lcom/example/unified_lexicon/unifiedlexicon/formats/RdfXml$Term;"⟩ : MethodName) prog_45_method_2_code 1 (some (.object "com/example/unified_lexicon/unifiedlexicon/formats/RdfXml$Term")) [] ({ frames := 3, cells := 1, slots := 4, locals := 41 } : Room) [u] h0 n0 [] (fun r h => ∃ x, r = some (.ref x) ∧ n0 ≤ x ∧ Exa Z h x "com/example/unified_lexicon/unifiedlexicon/formats/RdfXml$Term" ∧ Fld Z h x "com/example/unified_lexicon/unifiedlexicon/formats/RdfXml$Term" "kind" "Lcom/example/unified_lexicon/unifiedlexicon/formats/RdfXml$Term$Kind;" (.ref o) ∧ Fld Z h x "com/example/unified_lexicon/unifiedlexicon/formats/RdfXml$Term" "value" "Ljava/lang/String;" u ∧ Fld Z h x "com/example/unified_lexicon/unifiedlexicon/formats/RdfXml$Term" "language" "Ljava/lang/String;" .null ∧ Fld Z h x "com/example/unified_lexicon/unifiedlexicon/formats/RdfXml$Term" "datatype" "Ljava/lang/String;" .null) := by
  refine MetFree.of_bodySF pn_5 hisR ?_
  intro p e s m args below meth c s₁ Bd hml0 hP hK
  obtain ⟨rfl, hZ, hh⟩ := hP
  have hx := Bd.exec
  have hby := Bd.bytes
  have hml : c.maxLocals = 1 := hml0
  have hnm := (name_of_methodNamed Bd.named Bd.method).1
  have w0 := Wk.start (a0 := a0) (EL := []) (n0 := n0) (nw := true) Bd hZ hh EW.nil chv0 (ef5 m u qu) ({ frames := 3, cells := 1, slots := 4, locals := 41 } : Room) rfl
  have K0 : Keep h0 h0 [] := Keep.refl _ _
  obtain ⟨b1, h1, g1, E1, l1, A1, D1, y1, w1⟩ := w0.newO hx (hw _ (List.mem_of_getElem? (i := 30) rfl)) (hw _ (List.mem_of_getElem? (i := 31) rfl)) (hw _ (List.mem_of_getElem? (i := 28) rfl)) rfl (hb hby d5_0) (by decide) (by decide) (fun xq => (mkF m 3 #[.val u] (.ref xq :: []))) (fun _ => rfl)
  have z1 := E1.1
  have K2 : Keep h0 h1 [] := K0.ext E1
  have D1_45 : Fld Z h1 b1 "com/example/unified_lexicon/unifiedlexicon/formats/RdfXml$Term" "kind" "Lcom/example/unified_lexicon/unifiedlexicon/formats/RdfXml$Term$Kind;" .null := D1 (Or.inr (hw _ (List.mem_of_getElem? (i := 45) rfl))) (ty := (.object "com/example/unified_lexicon/unifiedlexicon/formats/RdfXml$Term$Kind")) (by decide)
  have D1_47 : Fld Z h1 b1 "com/example/unified_lexicon/unifiedlexicon/formats/RdfXml$Term" "value" "Ljava/lang/String;" .null := D1 (Or.inr (hw _ (List.mem_of_getElem? (i := 47) rfl))) (ty := (.object "java/lang/String")) (by decide)
  have D1_49 : Fld Z h1 b1 "com/example/unified_lexicon/unifiedlexicon/formats/RdfXml$Term" "language" "Ljava/lang/String;" .null := D1 (Or.inr (hw _ (List.mem_of_getElem? (i := 49) rfl))) (ty := (.object "java/lang/String")) (by decide)
  have D1_51 : Fld Z h1 b1 "com/example/unified_lexicon/unifiedlexicon/formats/RdfXml$Term" "datatype" "Ljava/lang/String;" .null := D1 (Or.inr (hw _ (List.mem_of_getElem? (i := 51) rfl))) (ty := (.object "java/lang/String")) (by decide)
  have w3 := w1.pure (mkF m 4 #[.val u] [(.ref b1), (.ref b1)]) (fun X eT hZ hown k => by
      show Steps _ _ _ (State.setTop _ (mkF m 3 #[.val u] [(.ref b1)])) _
      refine S.dup X.here hx (hb hby d5_3) rfl ?_
      exact k)
  have F4 := X0.ext E1
  have w5 := w3.same (mkF m 7 #[.val u] [(.ref o), (.ref b1), (.ref b1)]) (fun X eT hZ hown => getS (host := "") X hx hZ hown (hw _ (List.mem_of_getElem? (i := 32) rfl)) Via.refl eT (SO.ext F4.2) (g := (mkF m 4 #[.val u] [(.ref b1), (.ref b1)])) rfl (hb hby d5_4))
  have w6 := w5.pure (mkF m 10 #[.val u] [.null, .null, u, (.ref o), (.ref b1), (.ref b1)]) (fun X eT hZ hown k => by
      show Steps _ _ _ (State.setTop _ (mkF m 7 #[.val u] [(.ref o), (.ref b1), (.ref b1)])) _
      refine S.aloadN X.here hx (hb hby d5_7) rfl qu ?_
      refine S.aconstNull X.here hx (hb hby d5_8) ?_
      refine S.aconstNull X.here hx (hb hby d5_9) ?_
      exact k)
  obtain ⟨v7, h7, Q7, K7, z7, w7⟩ := w6.callI hx (y := (⟨"com/example/unified_lexicon/unifiedlexicon/formats/RdfXml$Term", "<init>", "(Lcom/example/unified_lexicon/unifiedlexicon/formats/RdfXml$Term$Kind;Ljava/lang/String;Ljava/lang/String;Ljava/lang/String;)V"⟩ : MethodName)) (W := 1) rfl (hw _ (List.mem_of_getElem? (i := 35) rfl)) (hw _ (List.mem_of_getElem? (i := 36) rfl)) (hw _ (List.mem_of_getElem? (i := 37) rfl)) (by decide) ((rm6 l Z a0 hw b1 o u qu h1 n0 (by omega) (by omega) A1 D1_45 D1_47 D1_49 D1_51).pay w6.hZ (hw _ (List.mem_of_getElem? (i := 37) rfl)) (hw _ (List.mem_of_getElem? (i := 28) rfl)) (by decide) (by decide)) rfl (by rw [hml]; rfl) [(.ref b1)] (lenOf pd_3 rfl) rfl (by show 2 * 0 + _ ≤ _; exact Nat.le_of_eq rfl) (hb hby d5_10) (by decide) (by decide) (fun _ _ => safe0) (fun rv => (mkF m 13 #[.val u] (rv.toList ++ [(.ref b1)]))) (fun _ => rfl)
  obtain ⟨rfl, E7x, G7_0, G7_1, G7_2, G7_3⟩ := Q7
  have K8 : Keep h0 h7 [] := K2.trans K7 (allS (Or.inr (by omega)) (fun _ q => nomatch q))
  exact w7.endN (v := some (.ref b1)) (Q := (fun r h => ∃ x, r = some (.ref x) ∧ n0 ≤ x ∧ Exa Z h x "com/example/unified_lexicon/unifiedlexicon/formats/RdfXml$Term" ∧ Fld Z h x "com/example/unified_lexicon/unifiedlexicon/formats/RdfXml$Term" "kind" "Lcom/example/unified_lexicon/unifiedlexicon/formats/RdfXml$Term$Kind;" (.ref o) ∧ Fld Z h x "com/example/unified_lexicon/unifiedlexicon/formats/RdfXml$Term" "value" "Ljava/lang/String;" u ∧ Fld Z h x "com/example/unified_lexicon/unifiedlexicon/formats/RdfXml$Term" "language" "Ljava/lang/String;" .null ∧ Fld Z h x "com/example/unified_lexicon/unifiedlexicon/formats/RdfXml$Term" "datatype" "Ljava/lang/String;" .null)) (wr := []) (h0 := h0) (fun h => by rw [Bd.returns] at h; cases h) Bd.notSynchronized (fun X hr => X.areturnOut hx rfl Bd.returns rfl (hb hby d5_13) hr) (by decide) (by decide) ⟨b1, rfl, by omega, E7x, G7_0, G7_1, G7_2, G7_3⟩ K8
theorem des_0 : decode jdk_42_method_66_code 0 = .ok (.aload_n 0, 1) := by decide +kernel
theorem des_1 : decode jdk_42_method_66_code 1 = .ok (.aload_n 1, 1) := by decide +kernel
theorem des_2 : decode jdk_42_method_66_code 2 = .ok (.if_acmp .ne 5, 3) := by decide +kernel
theorem des_5 : decode jdk_42_method_66_code 5 = .ok (.iconst 1, 1) := by decide +kernel
theorem des_6 : decode jdk_42_method_66_code 6 = .ok (.ireturn, 1) := by decide +kernel
theorem efes (m : MethodId) (x0 : Nat) (x1 : Nat) : entryFrame m #[(.ref x0), (.ref x1)] 3 = mkF m 0 #[.val (.ref x0), .val (.ref x1), .unset] [] := by first | rfl | (simp [entryFrame, mkF, argsToLocals, Value.category, maxLocals]; done)
theorem pn_6 : plainFor (⟨"java/lang/String", "equals", "(Ljava/lang/Object;)Z"⟩ : MethodName) = true := by first | decide +kernel | (apply plainFor_of_name; simp [plainName, overriddenIn]; done)
set_option maxRecDepth 65536 in
set_option maxHeartbeats 40000000 in
theorem rmes (l : Launch) (Z : State) (a0 : Array Value) (hw : ∀ d ∈ tables_1, d.before a0 Z = true) (x : Nat) (h0 : Heap) (n0 : Nat) (Z0 : n0 ≤ h0.size)  :
    NMet l Z (⟨"java/lang/String", "equals", "(Ljava/lang/Object;)Z"⟩ : MethodName) jdk_42_method_66_code 3 (some .boolean) [] ({ frames := 0, cells := 0, slots := 0, locals := 0 } : Room) [(.ref x), (.ref x)] h0 n0 [] (fun v h => v = some (.int (1 : Int32)) ∧ h0 = h) := by
  refine MetFree.of_bodySF pn_6 hisR ?_
  intro p e s m args below meth c s₁ Bd hml0 hP hK
  obtain ⟨rfl, hZ, hh⟩ := hP
  have hx := Bd.exec
  have hby := Bd.bytes
  have hml : c.maxLocals = 3 := hml0
  have hnm := (name_of_methodNamed Bd.named Bd.method).1
  have w0 := Wk.start (a0 := a0) (EL := []) (n0 := n0) (nw := true) Bd hZ hh EW.nil chv0 (efes m x x) ({ frames := 0, cells := 0, slots := 0, locals := 0 } : Room) rfl
  have K0 : Keep h0 h0 [] := Keep.refl _ _
  have w1 := w0.pure (mkF m 6 #[.val (.ref x), .val (.ref x), .unset] [(.int (1 : Int32))]) (fun X eT hZ hown k => by
      show Steps _ _ _ (State.setTop _ (mkF m 0 #[.val (.ref x), .val (.ref x), .unset] [])) _
      refine S.aloadN X.here hx (hb hby des_0) rfl rfl ?_
      refine S.aloadN X.here hx (hb hby des_1) rfl rfl ?_
      refine acmp X hx rfl rfl rfl (pc0 := 2) (pc' := 5) (same := true) rfl (hb hby des_2) rfl (decide_eq_true rfl) (by decide) rfl ?_
      show Steps _ _ _ (State.setTop _ (mkF m 5 #[.val (.ref x), .val (.ref x), .unset] [])) _
      refine S.iconst X.here hx (1 : Int32) (hb hby des_5) rfl ?_
      exact k)
  exact w1.endN (v := some (.int (1 : Int32))) (Q := (fun v h => v = some (.int (1 : Int32)) ∧ h0 = h)) (wr := []) (h0 := h0) (fun h => by rw [Bd.returns] at h; cases h) Bd.notSynchronized (fun X hr => retN X hx (t := .boolean) Bd.returns (by simp) (hb hby des_6) hr) (by decide) (by decide) ⟨rfl, rfl⟩ K0
theorem d8_0 : decode prog_45_method_6_code 0 = .ok (.aload_n 0, 1) := by decide +kernel
theorem d8_1 : decode prog_45_method_6_code 1 = .ok (.getfield 7, 3) := by decide +kernel
theorem d8_4 : decode prog_45_method_6_code 4 = .ok (.areturn, 1) := by decide +kernel
theorem ef8 (m : MethodId) (x0 : Nat) : entryFrame m #[(.ref x0)] 1 = mkF m 0 #[.val (.ref x0)] [] := by first | rfl | (simp [entryFrame, mkF, argsToLocals, Value.category, maxLocals]; done)
theorem pn_7 : plainFor (⟨"com/example/unified_lexicon/unifiedlexicon/formats/RdfXml$Term", "kind", "()Lcom/example/unified_lexicon/unifiedlexicon/formats/RdfXml$Term$Kind;"⟩ : MethodName) = true := by first | decide +kernel | (apply plainFor_of_name; simp [plainName, overriddenIn]; done)
set_option maxRecDepth 65536 in
set_option maxHeartbeats 40000000 in
theorem rm8 (l : Launch) (Z : State) (a0 : Array Value) (hw : ∀ d ∈ tables_1, d.before a0 Z = true) (a : Nat) (u : Value) (qu : u.isRef = true) (h0 : Heap) (n0 : Nat) (Z0 : n0 ≤ h0.size) (F0 : Fld Z h0 a "com/example/unified_lexicon/unifiedlexicon/formats/RdfXml$Term" "kind" "Lcom/example/unified_lexicon/unifiedlexicon/formats/RdfXml$Term$Kind;" u) :
    NMet l Z (⟨"com/example/unified_lexicon/unifiedlexicon/formats/RdfXml$Term", "kind", "()Lcom/example/unified_lexicon/unifiedlexicon/formats/RdfXml$Term$Kind;"⟩ : MethodName) prog_45_method_6_code 1 (some (.object "com/example/unified_lexicon/unifiedlexicon/formats/RdfXml$Term$Kind")) [] ({ frames := 0, cells := 0, slots := 0, locals := 0 } : Room) [(.ref a)] h0 n0 [] (fun v h => v = some u ∧ h0 = h) := by
  refine MetFree.of_bodySF pn_7 hisR ?_
  intro p e s m args below meth c s₁ Bd hml0 hP hK
  obtain ⟨rfl, hZ, hh⟩ := hP
  have hx := Bd.exec
  have hby := Bd.bytes
  have hml : c.maxLocals = 1 := hml0
  have hnm := (name_of_methodNamed Bd.named Bd.method).1
  have w0 := Wk.start (a0 := a0) (EL := []) (n0 := n0) (nw := true) Bd hZ hh EW.nil chv0 (ef8 m a) ({ frames := 0, cells := 0, slots := 0, locals := 0 } : Room) rfl
  have K0 : Keep h0 h0 [] := Keep.refl _ _
  have w1 := w0.pure (mkF m 1 #[.val (.ref a)] [(.ref a)]) (fun X eT hZ hown k => by
      show Steps _ _ _ (State.setTop _ (mkF m 0 #[.val (.ref a)] [])) _
      refine S.aloadN X.here hx (hb hby d8_0) rfl rfl ?_
      exact k)
  have w2 := w1.same (mkF m 4 #[.val (.ref a)] [u]) (fun X eT hZ hown => getF X hx hZ hown (host := "") (Or.inl (hw _ (List.mem_of_getElem? (i := 44) rfl))) Via.refl eT F0 (g := (mkF m 1 #[.val (.ref a)] [(.ref a)])) rfl rfl (hb hby d8_1))
  exact w2.endN (v := some u) (Q := (fun v h => v = some u ∧ h0 = h)) (wr := []) (h0 := h0) (fun h => by rw [Bd.returns] at h; cases h) Bd.notSynchronized (fun X hr => X.areturnOut hx qu Bd.returns rfl (hb hby d8_4) hr) (by decide) (by decide) ⟨rfl, rfl⟩ K0
theorem d9_0 : decode prog_45_method_7_code 0 = .ok (.aload_n 0, 1) := by decide +kernel
theorem d9_1 : decode prog_45_method_7_code 1 = .ok (.getfield 13, 3) := by decide +kernel
theorem d9_4 : decode prog_45_method_7_code 4 = .ok (.areturn, 1) := by decide +kernel
theorem ef9 (m : MethodId) (x0 : Nat) : entryFrame m #[(.ref x0)] 1 = mkF m 0 #[.val (.ref x0)] [] := by first | rfl | (simp [entryFrame, mkF, argsToLocals, Value.category, maxLocals]; done)
theorem pn_8 : plainFor (⟨"com/example/unified_lexicon/unifiedlexicon/formats/RdfXml$Term", "value", "()Ljava/lang/String;"⟩ : MethodName) = true := by first | decide +kernel | (apply plainFor_of_name; simp [plainName, overriddenIn]; done)
set_option maxRecDepth 65536 in
set_option maxHeartbeats 40000000 in
theorem rm9 (l : Launch) (Z : State) (a0 : Array Value) (hw : ∀ d ∈ tables_1, d.before a0 Z = true) (a : Nat) (u : Value) (qu : u.isRef = true) (h0 : Heap) (n0 : Nat) (Z0 : n0 ≤ h0.size) (F0 : Fld Z h0 a "com/example/unified_lexicon/unifiedlexicon/formats/RdfXml$Term" "value" "Ljava/lang/String;" u) :
    NMet l Z (⟨"com/example/unified_lexicon/unifiedlexicon/formats/RdfXml$Term", "value", "()Ljava/lang/String;"⟩ : MethodName) prog_45_method_7_code 1 (some (.object "java/lang/String")) [] ({ frames := 0, cells := 0, slots := 0, locals := 0 } : Room) [(.ref a)] h0 n0 [] (fun v h => v = some u ∧ h0 = h) := by
  refine MetFree.of_bodySF pn_8 hisR ?_
  intro p e s m args below meth c s₁ Bd hml0 hP hK
  obtain ⟨rfl, hZ, hh⟩ := hP
  have hx := Bd.exec
  have hby := Bd.bytes
  have hml : c.maxLocals = 1 := hml0
  have hnm := (name_of_methodNamed Bd.named Bd.method).1
  have w0 := Wk.start (a0 := a0) (EL := []) (n0 := n0) (nw := true) Bd hZ hh EW.nil chv0 (ef9 m a) ({ frames := 0, cells := 0, slots := 0, locals := 0 } : Room) rfl
  have K0 : Keep h0 h0 [] := Keep.refl _ _
  have w1 := w0.pure (mkF m 1 #[.val (.ref a)] [(.ref a)]) (fun X eT hZ hown k => by
      show Steps _ _ _ (State.setTop _ (mkF m 0 #[.val (.ref a)] [])) _
      refine S.aloadN X.here hx (hb hby d9_0) rfl rfl ?_
      exact k)
  have w2 := w1.same (mkF m 4 #[.val (.ref a)] [u]) (fun X eT hZ hown => getF X hx hZ hown (host := "") (Or.inl (hw _ (List.mem_of_getElem? (i := 46) rfl))) Via.refl eT F0 (g := (mkF m 1 #[.val (.ref a)] [(.ref a)])) rfl rfl (hb hby d9_1))
  exact w2.endN (v := some u) (Q := (fun v h => v = some u ∧ h0 = h)) (wr := []) (h0 := h0) (fun h => by rw [Bd.returns] at h; cases h) Bd.notSynchronized (fun X hr => X.areturnOut hx qu Bd.returns rfl (hb hby d9_4) hr) (by decide) (by decide) ⟨rfl, rfl⟩ K0
theorem d13_0 : decode prog_45_method_8_code 0 = .ok (.aload_n 0, 1) := by decide +kernel
theorem d13_1 : decode prog_45_method_8_code 1 = .ok (.getfield 17, 3) := by decide +kernel
theorem d13_4 : decode prog_45_method_8_code 4 = .ok (.areturn, 1) := by decide +kernel
theorem ef13 (m : MethodId) (x0 : Nat) : entryFrame m #[(.ref x0)] 1 = mkF m 0 #[.val (.ref x0)] [] := by first | rfl | (simp [entryFrame, mkF, argsToLocals, Value.category, maxLocals]; done)
theorem pn_9 : plainFor (⟨"com/example/unified_lexicon/unifiedlexicon/formats/RdfXml$Term", "language", "()Ljava/lang/String;"⟩ : MethodName) = true := by first | decide +kernel | (apply plainFor_of_name; simp [plainName, overriddenIn]; done)
set_option maxRecDepth 65536 in
set_option maxHeartbeats 40000000 in
theorem rm13 (l : Launch) (Z : State) (a0 : Array Value) (hw : ∀ d ∈ tables_1, d.before a0 Z = true) (a : Nat) (u : Value) (qu : u.isRef = true) (h0 : Heap) (n0 : Nat) (Z0 : n0 ≤ h0.size) (F0 : Fld Z h0 a "com/example/unified_lexicon/unifiedlexicon/formats/RdfXml$Term" "language" "Ljava/lang/String;" u) :
    NMet l Z (⟨"com/example/unified_lexicon/unifiedlexicon/formats/RdfXml$Term", "language", "()Ljava/lang/String;"⟩ : MethodName) prog_45_method_8_code 1 (some (.object "java/lang/String")) [] ({ frames := 0, cells := 0, slots := 0, locals := 0 } : Room) [(.ref a)] h0 n0 [] (fun v h => v = some u ∧ h0 = h) := by
  refine MetFree.of_bodySF pn_9 hisR ?_
  intro p e s m args below meth c s₁ Bd hml0 hP hK
  obtain ⟨rfl, hZ, hh⟩ := hP
  have hx := Bd.exec
  have hby := Bd.bytes
  have hml : c.maxLocals = 1 := hml0
  have hnm := (name_of_methodNamed Bd.named Bd.method).1
  have w0 := Wk.start (a0 := a0) (EL := []) (n0 := n0) (nw := true) Bd hZ hh EW.nil chv0 (ef13 m a) ({ frames := 0, cells := 0, slots := 0, locals := 0 } : Room) rfl
  have K0 : Keep h0 h0 [] := Keep.refl _ _
  have w1 := w0.pure (mkF m 1 #[.val (.ref a)] [(.ref a)]) (fun X eT hZ hown k => by
      show Steps _ _ _ (State.setTop _ (mkF m 0 #[.val (.ref a)] [])) _
      refine S.aloadN X.here hx (hb hby d13_0) rfl rfl ?_
      exact k)
  have w2 := w1.same (mkF m 4 #[.val (.ref a)] [u]) (fun X eT hZ hown => getF X hx hZ hown (host := "") (Or.inl (hw _ (List.mem_of_getElem? (i := 48) rfl))) Via.refl eT F0 (g := (mkF m 1 #[.val (.ref a)] [(.ref a)])) rfl rfl (hb hby d13_1))
  exact w2.endN (v := some u) (Q := (fun v h => v = some u ∧ h0 = h)) (wr := []) (h0 := h0) (fun h => by rw [Bd.returns] at h; cases h) Bd.notSynchronized (fun X hr => X.areturnOut hx qu Bd.returns rfl (hb hby d13_4) hr) (by decide) (by decide) ⟨rfl, rfl⟩ K0
theorem d14_0 : decode prog_45_method_9_code 0 = .ok (.aload_n 0, 1) := by decide +kernel
theorem d14_1 : decode prog_45_method_9_code 1 = .ok (.getfield 20, 3) := by decide +kernel
theorem d14_4 : decode prog_45_method_9_code 4 = .ok (.areturn, 1) := by decide +kernel
theorem ef14 (m : MethodId) (x0 : Nat) : entryFrame m #[(.ref x0)] 1 = mkF m 0 #[.val (.ref x0)] [] := by first | rfl | (simp [entryFrame, mkF, argsToLocals, Value.category, maxLocals]; done)
theorem pn_10 : plainFor (⟨"com/example/unified_lexicon/unifiedlexicon/formats/RdfXml$Term", "datatype", "()Ljava/lang/String;"⟩ : MethodName) = true := by first | decide +kernel | (apply plainFor_of_name; simp [plainName, overriddenIn]; done)
set_option maxRecDepth 65536 in
set_option maxHeartbeats 40000000 in
theorem rm14 (l : Launch) (Z : State) (a0 : Array Value) (hw : ∀ d ∈ tables_1, d.before a0 Z = true) (a : Nat) (u : Value) (qu : u.isRef = true) (h0 : Heap) (n0 : Nat) (Z0 : n0 ≤ h0.size) (F0 : Fld Z h0 a "com/example/unified_lexicon/unifiedlexicon/formats/RdfXml$Term" "datatype" "Ljava/lang/String;" u) :
    NMet l Z (⟨"com/example/unified_lexicon/unifiedlexicon/formats/RdfXml$Term", "datatype", "()Ljava/lang/String;"⟩ : MethodName) prog_45_method_9_code 1 (some (.object "java/lang/String")) [] ({ frames := 0, cells := 0, slots := 0, locals := 0 } : Room) [(.ref a)] h0 n0 [] (fun v h => v = some u ∧ h0 = h) := by
  refine MetFree.of_bodySF pn_10 hisR ?_
  intro p e s m args below meth c s₁ Bd hml0 hP hK
  obtain ⟨rfl, hZ, hh⟩ := hP
  have hx := Bd.exec
  have hby := Bd.bytes
  have hml : c.maxLocals = 1 := hml0
  have hnm := (name_of_methodNamed Bd.named Bd.method).1
  have w0 := Wk.start (a0 := a0) (EL := []) (n0 := n0) (nw := true) Bd hZ hh EW.nil chv0 (ef14 m a) ({ frames := 0, cells := 0, slots := 0, locals := 0 } : Room) rfl
  have K0 : Keep h0 h0 [] := Keep.refl _ _
  have w1 := w0.pure (mkF m 1 #[.val (.ref a)] [(.ref a)]) (fun X eT hZ hown k => by
      show Steps _ _ _ (State.setTop _ (mkF m 0 #[.val (.ref a)] [])) _
      refine S.aloadN X.here hx (hb hby d14_0) rfl rfl ?_
      exact k)
  have w2 := w1.same (mkF m 4 #[.val (.ref a)] [u]) (fun X eT hZ hown => getF X hx hZ hown (host := "") (Or.inl (hw _ (List.mem_of_getElem? (i := 50) rfl))) Via.refl eT F0 (g := (mkF m 1 #[.val (.ref a)] [(.ref a)])) rfl rfl (hb hby d14_1))
  exact w2.endN (v := some u) (Q := (fun v h => v = some u ∧ h0 = h)) (wr := []) (h0 := h0) (fun h => by rw [Bd.returns] at h; cases h) Bd.notSynchronized (fun X hr => X.areturnOut hx qu Bd.returns rfl (hb hby d14_4) hr) (by decide) (by decide) ⟨rfl, rfl⟩ K0
theorem pd_4 : parseMethodDescriptor "(IIII)Ljava/lang/String;" = some ⟨[.int, .int, .int, .int], some (.object "java/lang/String")⟩ := by decide +kernel
theorem pd_5 : parseMethodDescriptor "(Ljava/lang/String;)Lcom/example/unified_lexicon/unifiedlexicon/formats/RdfXml$Term;" = some ⟨[(.object "java/lang/String")], some (.object "com/example/unified_lexicon/unifiedlexicon/formats/RdfXml$Term")⟩ := by decide +kernel
theorem pd_6 : parseMethodDescriptor "()Lcom/example/unified_lexicon/unifiedlexicon/formats/RdfXml$Term$Kind;" = some ⟨[], some (.object "com/example/unified_lexicon/unifiedlexicon/formats/RdfXml$Term$Kind")⟩ := by decide +kernel
theorem pd_7 : parseMethodDescriptor "()Ljava/lang/String;" = some ⟨[], some (.object "java/lang/String")⟩ := by decide +kernel
theorem pd_8 : parseMethodDescriptor "()I" = some ⟨[], some .int⟩ := by decide +kernel
theorem pd_9 : parseMethodDescriptor "(Ljava/lang/Object;)Z" = some ⟨[(.object "java/lang/Object")], some .boolean⟩ := by decide +kernel
theorem ef0 (m : MethodId) (x0 : Int32) (x1 : Int32) (x2 : Int32) (x3 : Int32) : entryFrame m #[(.int x0), (.int x1), (.int x2), (.int x3)] maxLocals = mkF m 0 #[.val (.int x0), .val (.int x1), .val (.int x2), .val (.int x3), .unset, .unset, .unset, .unset] [] := by first | rfl | (simp [entryFrame, mkF, argsToLocals, Value.category, maxLocals]; done)
theorem pn_11 : plainFor x = true := by first | decide +kernel | (apply plainFor_of_name; simp [plainName, overriddenIn]; done)
set_option maxRecDepth 65536 in
set_option maxHeartbeats 40000000 in
theorem rm0 (l : Launch) (Z : State) (a0 : Array Value) (hw : ∀ d ∈ tables_1, d.before a0 Z = true) (hE : EW Z a0 consts_1) (ws : List Jvm.Cond) (p0 p1 p2 p3 : Int32) (o : Nat) (h0 : Heap) (n0 : Nat) (Z0 : n0 ≤ h0.size) (hG : SetsOk Z) (SO : Sta Z Z.heap "com/example/unified_lexicon/unifiedlexicon/formats/RdfXml$Term$Kind" "IRI" "Lcom/example/unified_lexicon/unifiedlexicon/formats/RdfXml$Term$Kind;" (.ref o)) (X0 : Old Z n0 h0) :
    WMet l Z consts_1 x code maxLocals ret ws room_1 [(.int p0), (.int p1), (.int p2), (.int p3)] h0 n0 [] [] (fun v h => v = some (.int 1)) := by
  refine MetFree.of_bodySF pn_11 hisR ?_
  intro p e s m args below meth c s₁ Bd hml0 hP hK
  obtain ⟨rfl, hZ, hh, hC, hSf⟩ := hP
  have hx := Bd.exec
  have hby := Bd.bytes
  have hml : c.maxLocals = 8 := hml0
  have hnm := (name_of_methodNamed Bd.named Bd.method).1
  have w0 := Wk.start (a0 := a0) (EL := consts_1) (n0 := n0) (nw := false) Bd hZ hh hE hC (ef0 m p0 p1 p2 p3) room_1 rfl
  have K0 : Keep h0 h0 [] := Keep.refl _ _
  have hq_lenW : ∀ d ∈ StrChars.Road.wordsLen, d.before a0 Z = true := fun d hd => hw d ((by decide +kernel : ∀ d ∈ StrChars.Road.wordsLen, d ∈ tables_1) d hd)
  have w1 := w0.pure (mkF m 4 #[.val (.int p0), .val (.int p1), .val (.int p2), .val (.int p3), .unset, .unset, .unset, .unset] [(.int p3), (.int p2), (.int p1), (.int p0)]) (fun X eT hZ hown k => by
      show Steps _ _ _ (State.setTop _ (mkF m 0 #[.val (.int p0), .val (.int p1), .val (.int p2), .val (.int p3), .unset, .unset, .unset, .unset] [])) _
      refine S.iloadN X.here hx (hb hby at_0) rfl ?_
      refine S.iloadN X.here hx (hb hby at_1) rfl ?_
      refine S.iloadN X.here hx (hb hby at_2) rfl ?_
      refine S.iloadN X.here hx (hb hby at_3) rfl ?_
      exact k)
  obtain ⟨v2, vm2, h2, Q2, K2, z2, C2, w2⟩ := w1.callSW hx (y := (⟨"com/example/unified_lexicon/unifiedlexicon/formats/TermIriPinLaw", "drawn", "(IIII)Ljava/lang/String;"⟩ : MethodName)) (W := 0) (hw _ (List.mem_of_getElem? (i := 0) rfl)) (hw _ (List.mem_of_getElem? (i := 1) rfl)) (hw _ (List.mem_of_getElem? (i := 2) rfl)) (hw _ (List.mem_of_getElem? (i := 3) rfl)) (by decide) ((rm1 l Z a0 hw hE p0 p1 p2 p3 h0 n0 (by omega) hG X0).pay w1 (hw _ (List.mem_of_getElem? (i := 3) rfl)) (hw _ (List.mem_of_getElem? (i := 2) rfl)) (by decide) (by decide) all0) rfl (by rw [hml]; rfl) [] (lenOf pd_4 rfl) rfl (by show 2 * 0 + _ ≤ _; exact Nat.le_of_eq rfl) (hb hby at_4) (by decide) (by decide)  (fun rv => (mkF m 7 #[.val (.int p0), .val (.int p1), .val (.int p2), .val (.int p3), .unset, .unset, .unset, .unset] (rv.toList ++ []))) (fun _ => rfl)
  rcases Q2 with rfl | ⟨x2, cs2, rfl, gx2, S2⟩
  · have K3 : Keep h0 h2 [] := K0.trans K2 (fun _ q => nomatch q)
    have w4 := w2.pure (mkF m 11 #[.val (.int p0), .val (.int p1), .val (.int p2), .val (.int p3), .val .null, .unset, .unset, .unset] [.null]) (fun X eT hZ hown k => by
        show Steps _ _ _ (State.setTop _ (mkF m 7 #[.val (.int p0), .val (.int p1), .val (.int p2), .val (.int p3), .unset, .unset, .unset, .unset] [.null])) _
        refine S.astore X.here hx (hb hby at_7) rfl #[.val (.int p0), .val (.int p1), .val (.int p2), .val (.int p3), .val .null, .unset, .unset, .unset] rfl ?_
        refine S.aload X.here hx (hb hby at_9) rfl rfl ?_
        exact k)
    have F5 := X0.keep K2 all0
    obtain ⟨v6, h6, Q6, K6, z6, w6⟩ := w4.callS hx (y := (⟨"com/example/unified_lexicon/unifiedlexicon/formats/RdfXml$Term", "iri", "(Ljava/lang/String;)Lcom/example/unified_lexicon/unifiedlexicon/formats/RdfXml$Term;"⟩ : MethodName)) (W := 0) (hw _ (List.mem_of_getElem? (i := 26) rfl)) (hw _ (List.mem_of_getElem? (i := 27) rfl)) (hw _ (List.mem_of_getElem? (i := 28) rfl)) (hw _ (List.mem_of_getElem? (i := 29) rfl)) (by decide) ((rm5 l Z a0 hw .null rfl o h2 n0 (by omega) SO F5).pay w4.hZ (hw _ (List.mem_of_getElem? (i := 29) rfl)) (hw _ (List.mem_of_getElem? (i := 28) rfl)) (by decide) (by decide)) rfl (by rw [hml]; rfl) [] (lenOf pd_5 rfl) rfl (by show 2 * 0 + _ ≤ _; exact Nat.le_of_eq rfl) (hb hby at_11) (by decide) (by decide) (fun _ q => nomatch q) (fun rv => (mkF m 14 #[.val (.int p0), .val (.int p1), .val (.int p2), .val (.int p3), .val .null, .unset, .unset, .unset] (rv.toList ++ []))) (fun _ => rfl)
    obtain ⟨x6, rfl, gx6, E6x, G6_0, G6_1, G6_2, G6_3⟩ := Q6
    have K7 : Keep h0 h6 [] := K3.trans K6 (fun _ q => nomatch q)
    have lt_x6 := exlt E6x
    have w8 := w6.pure (mkF m 25 #[.val (.int p0), .val (.int p1), .val (.int p2), .val (.int p3), .val .null, .val (.ref x6), .unset, .unset] [(.ref x6)]) (fun X eT hZ hown k => by
        show Steps _ _ _ (State.setTop _ (mkF m 14 #[.val (.int p0), .val (.int p1), .val (.int p2), .val (.int p3), .val .null, .unset, .unset, .unset] [(.ref x6)])) _
        refine S.astore X.here hx (hb hby at_14) rfl #[.val (.int p0), .val (.int p1), .val (.int p2), .val (.int p3), .val .null, .val (.ref x6), .unset, .unset] rfl ?_
        refine S.aload X.here hx (hb hby at_16) rfl rfl ?_
        refine S.ifnonnullYes X.here hx 23 (hb hby at_18) (by decide) (by decide) ?_
        refine S.aload X.here hx (hb hby at_23) rfl rfl ?_
        exact k)
    obtain ⟨v9, h9, Q9, K9, z9, w9⟩ := w8.callV hx (C := "com/example/unified_lexicon/unifiedlexicon/formats/RdfXml$Term") (y := (⟨"com/example/unified_lexicon/unifiedlexicon/formats/RdfXml$Term", "kind", "()Lcom/example/unified_lexicon/unifiedlexicon/formats/RdfXml$Term$Kind;"⟩ : MethodName)) (z := (⟨"com/example/unified_lexicon/unifiedlexicon/formats/RdfXml$Term", "kind", "()Lcom/example/unified_lexicon/unifiedlexicon/formats/RdfXml$Term$Kind;"⟩ : MethodName)) (W := 0) (hw _ (List.mem_of_getElem? (i := 52) rfl)) (hw _ (List.mem_of_getElem? (i := 53) rfl)) (hw _ (List.mem_of_getElem? (i := 55) rfl)) (hw _ (List.mem_of_getElem? (i := 54) rfl)) (w8.nf (hw _ (List.mem_of_getElem? (i := 55) rfl))) (by decide) ((rm8 l Z a0 hw x6 (.ref o) rfl h6 n0 (by omega) G6_0).pay w8.hZ (hw _ (List.mem_of_getElem? (i := 56) rfl)) (hw _ (List.mem_of_getElem? (i := 28) rfl)) (by decide) (by decide)) E6x rfl (by rw [hml]; rfl) [] (lenOf pd_6 rfl) rfl (by show 2 * 0 + _ ≤ _; exact Nat.le_of_eq rfl) (hb hby at_25) (by decide) (by decide) (fun _ q => nomatch q) (fun rv => (mkF m 28 #[.val (.int p0), .val (.int p1), .val (.int p2), .val (.int p3), .val .null, .val (.ref x6), .unset, .unset] (rv.toList ++ []))) (fun _ => rfl)
    obtain ⟨rfl, rfl⟩ := Q9
    have F10 := F5.keep K6 all0
    have w11 := w9.same (mkF m 31 #[.val (.int p0), .val (.int p1), .val (.int p2), .val (.int p3), .val .null, .val (.ref x6), .unset, .unset] [(.ref o), (.ref o)]) (fun X eT hZ hown => getS (host := "") X hx hZ hown (hw _ (List.mem_of_getElem? (i := 57) rfl)) Via.refl eT (SO.ext F10.2) (g := (mkF m 28 #[.val (.int p0), .val (.int p1), .val (.int p2), .val (.int p3), .val .null, .val (.ref x6), .unset, .unset] [(.ref o)])) rfl (hb hby at_28))
    have w12 := w11.pure (mkF m 38 #[.val (.int p0), .val (.int p1), .val (.int p2), .val (.int p3), .val .null, .val (.ref x6), .unset, .unset] [(.ref x6)]) (fun X eT hZ hown k => by
        show Steps _ _ _ (State.setTop _ (mkF m 31 #[.val (.int p0), .val (.int p1), .val (.int p2), .val (.int p3), .val .null, .val (.ref x6), .unset, .unset] [(.ref o), (.ref o)])) _
        refine acmp X hx rfl rfl rfl (pc0 := 31) (pc' := 36) (same := true) rfl (hb hby at_31) rfl (decide_eq_true rfl) (by decide) rfl ?_
        show Steps _ _ _ (State.setTop _ (mkF m 36 #[.val (.int p0), .val (.int p1), .val (.int p2), .val (.int p3), .val .null, .val (.ref x6), .unset, .unset] [])) _
        refine S.aload X.here hx (hb hby at_36) rfl rfl ?_
        exact k)
    obtain ⟨v13, h13, Q13, K13, z13, w13⟩ := w12.callV hx (C := "com/example/unified_lexicon/unifiedlexicon/formats/RdfXml$Term") (y := (⟨"com/example/unified_lexicon/unifiedlexicon/formats/RdfXml$Term", "value", "()Ljava/lang/String;"⟩ : MethodName)) (z := (⟨"com/example/unified_lexicon/unifiedlexicon/formats/RdfXml$Term", "value", "()Ljava/lang/String;"⟩ : MethodName)) (W := 0) (hw _ (List.mem_of_getElem? (i := 58) rfl)) (hw _ (List.mem_of_getElem? (i := 59) rfl)) (hw _ (List.mem_of_getElem? (i := 61) rfl)) (hw _ (List.mem_of_getElem? (i := 60) rfl)) (w12.nf (hw _ (List.mem_of_getElem? (i := 61) rfl))) (by decide) ((rm9 l Z a0 hw x6 .null rfl h6 n0 (by omega) G6_1).pay w12.hZ (hw _ (List.mem_of_getElem? (i := 62) rfl)) (hw _ (List.mem_of_getElem? (i := 28) rfl)) (by decide) (by decide)) E6x rfl (by rw [hml]; rfl) [] (lenOf pd_7 rfl) rfl (by show 2 * 0 + _ ≤ _; exact Nat.le_of_eq rfl) (hb hby at_38) (by decide) (by decide) (fun _ q => nomatch q) (fun rv => (mkF m 41 #[.val (.int p0), .val (.int p1), .val (.int p2), .val (.int p3), .val .null, .val (.ref x6), .unset, .unset] (rv.toList ++ []))) (fun _ => rfl)
    obtain ⟨rfl, rfl⟩ := Q13
    have w14 := w13.pure (mkF m 105 #[.val (.int p0), .val (.int p1), .val (.int p2), .val (.int p3), .val .null, .val (.ref x6), .val .null, .val (.int (1 : Int32))] [(.ref x6)]) (fun X eT hZ hown k => by
        show Steps _ _ _ (State.setTop _ (mkF m 41 #[.val (.int p0), .val (.int p1), .val (.int p2), .val (.int p3), .val .null, .val (.ref x6), .unset, .unset] [.null])) _
        refine S.astore X.here hx (hb hby at_41) rfl #[.val (.int p0), .val (.int p1), .val (.int p2), .val (.int p3), .val .null, .val (.ref x6), .val .null, .unset] rfl ?_
        refine S.aload X.here hx (hb hby at_43) rfl rfl ?_
        refine S.ifnonnullNo X.here hx (hb hby at_45) ?_
        refine S.aload X.here hx (hb hby at_48) rfl rfl ?_
        refine S.ifnonnullNo X.here hx (hb hby at_50) ?_
        refine S.iconst X.here hx (1 : Int32) (hb hby at_53) rfl ?_
        refine S.goto X.here hx 58 (hb hby at_54) (by decide) (by decide) ?_
        refine S.istore X.here hx (hb hby at_58) #[.val (.int p0), .val (.int p1), .val (.int p2), .val (.int p3), .val .null, .val (.ref x6), .val .null, .val (.int (1 : Int32))] rfl ?_
        refine S.goto X.here hx 98 (hb hby at_60) (by decide) (by decide) ?_
        refine S.iload X.here hx (hb hby at_98) rfl ?_
        refine S.ifNo X.here hx (hb hby at_100) (by decide) ?_
        refine S.aload X.here hx (hb hby at_103) rfl rfl ?_
        exact k)
    obtain ⟨v15, h15, Q15, K15, z15, w15⟩ := w14.callV hx (C := "com/example/unified_lexicon/unifiedlexicon/formats/RdfXml$Term") (y := (⟨"com/example/unified_lexicon/unifiedlexicon/formats/RdfXml$Term", "language", "()Ljava/lang/String;"⟩ : MethodName)) (z := (⟨"com/example/unified_lexicon/unifiedlexicon/formats/RdfXml$Term", "language", "()Ljava/lang/String;"⟩ : MethodName)) (W := 0) (hw _ (List.mem_of_getElem? (i := 79) rfl)) (hw _ (List.mem_of_getElem? (i := 80) rfl)) (hw _ (List.mem_of_getElem? (i := 82) rfl)) (hw _ (List.mem_of_getElem? (i := 81) rfl)) (w14.nf (hw _ (List.mem_of_getElem? (i := 82) rfl))) (by decide) ((rm13 l Z a0 hw x6 .null rfl h6 n0 (by omega) G6_2).pay w14.hZ (hw _ (List.mem_of_getElem? (i := 83) rfl)) (hw _ (List.mem_of_getElem? (i := 28) rfl)) (by decide) (by decide)) E6x rfl (by rw [hml]; rfl) [] (lenOf pd_7 rfl) rfl (by show 2 * 0 + _ ≤ _; exact Nat.le_of_eq rfl) (hb hby at_105) (by decide) (by decide) (fun _ q => nomatch q) (fun rv => (mkF m 108 #[.val (.int p0), .val (.int p1), .val (.int p2), .val (.int p3), .val .null, .val (.ref x6), .val .null, .val (.int (1 : Int32))] (rv.toList ++ []))) (fun _ => rfl)
    obtain ⟨rfl, rfl⟩ := Q15
    have w16 := w15.pure (mkF m 113 #[.val (.int p0), .val (.int p1), .val (.int p2), .val (.int p3), .val .null, .val (.ref x6), .val .null, .val (.int (1 : Int32))] [(.ref x6)]) (fun X eT hZ hown k => by
        show Steps _ _ _ (State.setTop _ (mkF m 108 #[.val (.int p0), .val (.int p1), .val (.int p2), .val (.int p3), .val .null, .val (.ref x6), .val .null, .val (.int (1 : Int32))] [.null])) _
        refine S.ifnonnullNo X.here hx (hb hby at_108) ?_
        refine S.aload X.here hx (hb hby at_111) rfl rfl ?_
        exact k)
    obtain ⟨v17, h17, Q17, K17, z17, w17⟩ := w16.callV hx (C := "com/example/unified_lexicon/unifiedlexicon/formats/RdfXml$Term") (y := (⟨"com/example/unified_lexicon/unifiedlexicon/formats/RdfXml$Term", "datatype", "()Ljava/lang/String;"⟩ : MethodName)) (z := (⟨"com/example/unified_lexicon/unifiedlexicon/formats/RdfXml$Term", "datatype", "()Ljava/lang/String;"⟩ : MethodName)) (W := 0) (hw _ (List.mem_of_getElem? (i := 84) rfl)) (hw _ (List.mem_of_getElem? (i := 85) rfl)) (hw _ (List.mem_of_getElem? (i := 87) rfl)) (hw _ (List.mem_of_getElem? (i := 86) rfl)) (w16.nf (hw _ (List.mem_of_getElem? (i := 87) rfl))) (by decide) ((rm14 l Z a0 hw x6 .null rfl h6 n0 (by omega) G6_3).pay w16.hZ (hw _ (List.mem_of_getElem? (i := 88) rfl)) (hw _ (List.mem_of_getElem? (i := 28) rfl)) (by decide) (by decide)) E6x rfl (by rw [hml]; rfl) [] (lenOf pd_7 rfl) rfl (by show 2 * 0 + _ ≤ _; exact Nat.le_of_eq rfl) (hb hby at_113) (by decide) (by decide) (fun _ q => nomatch q) (fun rv => (mkF m 116 #[.val (.int p0), .val (.int p1), .val (.int p2), .val (.int p3), .val .null, .val (.ref x6), .val .null, .val (.int (1 : Int32))] (rv.toList ++ []))) (fun _ => rfl)
    obtain ⟨rfl, rfl⟩ := Q17
    have w18 := w17.pure (mkF m 124 #[.val (.int p0), .val (.int p1), .val (.int p2), .val (.int p3), .val .null, .val (.ref x6), .val .null, .val (.int (1 : Int32))] [(.int (1 : Int32))]) (fun X eT hZ hown k => by
        show Steps _ _ _ (State.setTop _ (mkF m 116 #[.val (.int p0), .val (.int p1), .val (.int p2), .val (.int p3), .val .null, .val (.ref x6), .val .null, .val (.int (1 : Int32))] [.null])) _
        refine S.ifnonnullNo X.here hx (hb hby at_116) ?_
        refine S.iconst X.here hx (1 : Int32) (hb hby at_119) rfl ?_
        refine S.goto X.here hx 124 (hb hby at_120) (by decide) (by decide) ?_
        exact k)
    exact w18.endW (v := some (.int (1 : Int32))) (Q := (fun v h => v = some (.int 1))) (wr := []) (h0 := h0) (fun h => by rw [Bd.returns] at h; cases h) Bd.notSynchronized (fun X hr => retN X hx (t := .boolean) Bd.returns (by simp) (hb hby at_124) hr) (by decide) (by decide) rfl K7
  · have K19 : Keep h0 h2 [] := K0.trans K2 (fun _ q => nomatch q)
    have lt_x2 := S2.lt
    have w20 := w2.pure (mkF m 11 #[.val (.int p0), .val (.int p1), .val (.int p2), .val (.int p3), .val (.ref x2), .unset, .unset, .unset] [(.ref x2)]) (fun X eT hZ hown k => by
        show Steps _ _ _ (State.setTop _ (mkF m 7 #[.val (.int p0), .val (.int p1), .val (.int p2), .val (.int p3), .unset, .unset, .unset, .unset] [(.ref x2)])) _
        refine S.astore X.here hx (hb hby at_7) rfl #[.val (.int p0), .val (.int p1), .val (.int p2), .val (.int p3), .val (.ref x2), .unset, .unset, .unset] rfl ?_
        refine S.aload X.here hx (hb hby at_9) rfl rfl ?_
        exact k)
    have F21 := X0.keep K2 all0
    obtain ⟨v22, h22, Q22, K22, z22, w22⟩ := w20.callS hx (y := (⟨"com/example/unified_lexicon/unifiedlexicon/formats/RdfXml$Term", "iri", "(Ljava/lang/String;)Lcom/example/unified_lexicon/unifiedlexicon/formats/RdfXml$Term;"⟩ : MethodName)) (W := 0) (hw _ (List.mem_of_getElem? (i := 26) rfl)) (hw _ (List.mem_of_getElem? (i := 27) rfl)) (hw _ (List.mem_of_getElem? (i := 28) rfl)) (hw _ (List.mem_of_getElem? (i := 29) rfl)) (by decide) ((rm5 l Z a0 hw (.ref x2) rfl o h2 n0 (by omega) SO F21).pay w20.hZ (hw _ (List.mem_of_getElem? (i := 29) rfl)) (hw _ (List.mem_of_getElem? (i := 28) rfl)) (by decide) (by decide)) rfl (by rw [hml]; rfl) [] (lenOf pd_5 rfl) rfl (by show 2 * 0 + _ ≤ _; exact Nat.le_of_eq rfl) (hb hby at_11) (by decide) (by decide) (fun _ q => nomatch q) (fun rv => (mkF m 14 #[.val (.int p0), .val (.int p1), .val (.int p2), .val (.int p3), .val (.ref x2), .unset, .unset, .unset] (rv.toList ++ []))) (fun _ => rfl)
    obtain ⟨x22, rfl, gx22, E22x, G22_0, G22_1, G22_2, G22_3⟩ := Q22
    have K23 : Keep h0 h22 [] := K19.trans K22 (fun _ q => nomatch q)
    have lt_x22 := exlt E22x
    have w24 := w22.pure (mkF m 25 #[.val (.int p0), .val (.int p1), .val (.int p2), .val (.int p3), .val (.ref x2), .val (.ref x22), .unset, .unset] [(.ref x22)]) (fun X eT hZ hown k => by
        show Steps _ _ _ (State.setTop _ (mkF m 14 #[.val (.int p0), .val (.int p1), .val (.int p2), .val (.int p3), .val (.ref x2), .unset, .unset, .unset] [(.ref x22)])) _
        refine S.astore X.here hx (hb hby at_14) rfl #[.val (.int p0), .val (.int p1), .val (.int p2), .val (.int p3), .val (.ref x2), .val (.ref x22), .unset, .unset] rfl ?_
        refine S.aload X.here hx (hb hby at_16) rfl rfl ?_
        refine S.ifnonnullYes X.here hx 23 (hb hby at_18) (by decide) (by decide) ?_
        refine S.aload X.here hx (hb hby at_23) rfl rfl ?_
        exact k)
    obtain ⟨v25, h25, Q25, K25, z25, w25⟩ := w24.callV hx (C := "com/example/unified_lexicon/unifiedlexicon/formats/RdfXml$Term") (y := (⟨"com/example/unified_lexicon/unifiedlexicon/formats/RdfXml$Term", "kind", "()Lcom/example/unified_lexicon/unifiedlexicon/formats/RdfXml$Term$Kind;"⟩ : MethodName)) (z := (⟨"com/example/unified_lexicon/unifiedlexicon/formats/RdfXml$Term", "kind", "()Lcom/example/unified_lexicon/unifiedlexicon/formats/RdfXml$Term$Kind;"⟩ : MethodName)) (W := 0) (hw _ (List.mem_of_getElem? (i := 52) rfl)) (hw _ (List.mem_of_getElem? (i := 53) rfl)) (hw _ (List.mem_of_getElem? (i := 55) rfl)) (hw _ (List.mem_of_getElem? (i := 54) rfl)) (w24.nf (hw _ (List.mem_of_getElem? (i := 55) rfl))) (by decide) ((rm8 l Z a0 hw x22 (.ref o) rfl h22 n0 (by omega) G22_0).pay w24.hZ (hw _ (List.mem_of_getElem? (i := 56) rfl)) (hw _ (List.mem_of_getElem? (i := 28) rfl)) (by decide) (by decide)) E22x rfl (by rw [hml]; rfl) [] (lenOf pd_6 rfl) rfl (by show 2 * 0 + _ ≤ _; exact Nat.le_of_eq rfl) (hb hby at_25) (by decide) (by decide) (fun _ q => nomatch q) (fun rv => (mkF m 28 #[.val (.int p0), .val (.int p1), .val (.int p2), .val (.int p3), .val (.ref x2), .val (.ref x22), .unset, .unset] (rv.toList ++ []))) (fun _ => rfl)
    obtain ⟨rfl, rfl⟩ := Q25
    have F26 := F21.keep K22 all0
    have w27 := w25.same (mkF m 31 #[.val (.int p0), .val (.int p1), .val (.int p2), .val (.int p3), .val (.ref x2), .val (.ref x22), .unset, .unset] [(.ref o), (.ref o)]) (fun X eT hZ hown => getS (host := "") X hx hZ hown (hw _ (List.mem_of_getElem? (i := 57) rfl)) Via.refl eT (SO.ext F26.2) (g := (mkF m 28 #[.val (.int p0), .val (.int p1), .val (.int p2), .val (.int p3), .val (.ref x2), .val (.ref x22), .unset, .unset] [(.ref o)])) rfl (hb hby at_28))
    have w28 := w27.pure (mkF m 38 #[.val (.int p0), .val (.int p1), .val (.int p2), .val (.int p3), .val (.ref x2), .val (.ref x22), .unset, .unset] [(.ref x22)]) (fun X eT hZ hown k => by
        show Steps _ _ _ (State.setTop _ (mkF m 31 #[.val (.int p0), .val (.int p1), .val (.int p2), .val (.int p3), .val (.ref x2), .val (.ref x22), .unset, .unset] [(.ref o), (.ref o)])) _
        refine acmp X hx rfl rfl rfl (pc0 := 31) (pc' := 36) (same := true) rfl (hb hby at_31) rfl (decide_eq_true rfl) (by decide) rfl ?_
        show Steps _ _ _ (State.setTop _ (mkF m 36 #[.val (.int p0), .val (.int p1), .val (.int p2), .val (.int p3), .val (.ref x2), .val (.ref x22), .unset, .unset] [])) _
        refine S.aload X.here hx (hb hby at_36) rfl rfl ?_
        exact k)
    obtain ⟨v29, h29, Q29, K29, z29, w29⟩ := w28.callV hx (C := "com/example/unified_lexicon/unifiedlexicon/formats/RdfXml$Term") (y := (⟨"com/example/unified_lexicon/unifiedlexicon/formats/RdfXml$Term", "value", "()Ljava/lang/String;"⟩ : MethodName)) (z := (⟨"com/example/unified_lexicon/unifiedlexicon/formats/RdfXml$Term", "value", "()Ljava/lang/String;"⟩ : MethodName)) (W := 0) (hw _ (List.mem_of_getElem? (i := 58) rfl)) (hw _ (List.mem_of_getElem? (i := 59) rfl)) (hw _ (List.mem_of_getElem? (i := 61) rfl)) (hw _ (List.mem_of_getElem? (i := 60) rfl)) (w28.nf (hw _ (List.mem_of_getElem? (i := 61) rfl))) (by decide) ((rm9 l Z a0 hw x22 (.ref x2) rfl h22 n0 (by omega) G22_1).pay w28.hZ (hw _ (List.mem_of_getElem? (i := 62) rfl)) (hw _ (List.mem_of_getElem? (i := 28) rfl)) (by decide) (by decide)) E22x rfl (by rw [hml]; rfl) [] (lenOf pd_7 rfl) rfl (by show 2 * 0 + _ ≤ _; exact Nat.le_of_eq rfl) (hb hby at_38) (by decide) (by decide) (fun _ q => nomatch q) (fun rv => (mkF m 41 #[.val (.int p0), .val (.int p1), .val (.int p2), .val (.int p3), .val (.ref x2), .val (.ref x22), .unset, .unset] (rv.toList ++ []))) (fun _ => rfl)
    obtain ⟨rfl, rfl⟩ := Q29
    have w30 := w29.pure (mkF m 70 #[.val (.int p0), .val (.int p1), .val (.int p2), .val (.int p3), .val (.ref x2), .val (.ref x22), .val (.ref x2), .unset] [(.ref x2)]) (fun X eT hZ hown k => by
        show Steps _ _ _ (State.setTop _ (mkF m 41 #[.val (.int p0), .val (.int p1), .val (.int p2), .val (.int p3), .val (.ref x2), .val (.ref x22), .unset, .unset] [(.ref x2)])) _
        refine S.astore X.here hx (hb hby at_41) rfl #[.val (.int p0), .val (.int p1), .val (.int p2), .val (.int p3), .val (.ref x2), .val (.ref x22), .val (.ref x2), .unset] rfl ?_
        refine S.aload X.here hx (hb hby at_43) rfl rfl ?_
        refine S.ifnonnullYes X.here hx 63 (hb hby at_45) (by decide) (by decide) ?_
        refine S.aload X.here hx (hb hby at_63) rfl rfl ?_
        refine S.ifnullNo X.here hx (hb hby at_65) ?_
        refine S.aload X.here hx (hb hby at_68) rfl rfl ?_
        exact k)
    have F31 := S2.keep K22 all0
    obtain ⟨v32, h32, Q32, K32, z32, w32⟩ := w30.callV hx (C := "java/lang/String") (y := (⟨"java/lang/String", "length", "()I"⟩ : MethodName)) (z := (⟨"java/lang/String", "length", "()I"⟩ : MethodName)) (W := 0) (hw _ (List.mem_of_getElem? (i := 63) rfl)) (hw _ (List.mem_of_getElem? (i := 64) rfl)) (hw _ (List.mem_of_getElem? (i := 66) rfl)) (hw _ (List.mem_of_getElem? (i := 65) rfl)) (w30.nf (hw _ (List.mem_of_getElem? (i := 66) rfl))) (by decide) (payLen hG w30.hZ hq_lenW (hw _ (List.mem_of_getElem? (i := 5) rfl)) F31 F26 (by decide) (by decide)) F31.exa rfl (by rw [hml]; rfl) [] (lenOf pd_8 rfl) rfl (by show 2 * 0 + _ ≤ _; exact Nat.le_of_eq rfl) (hb hby at_70) (by decide) (by decide) (fun _ q => nomatch q) (fun rv => (mkF m 73 #[.val (.int p0), .val (.int p1), .val (.int p2), .val (.int p3), .val (.ref x2), .val (.ref x22), .val (.ref x2), .unset] (rv.toList ++ []))) (fun _ => rfl)
    obtain ⟨rfl, rfl⟩ := Q32
    have w33 := w32.pure (mkF m 75 #[.val (.int p0), .val (.int p1), .val (.int p2), .val (.int p3), .val (.ref x2), .val (.ref x22), .val (.ref x2), .unset] [(.ref x2), (.int (Int32.ofNat cs2.length))]) (fun X eT hZ hown k => by
        show Steps _ _ _ (State.setTop _ (mkF m 73 #[.val (.int p0), .val (.int p1), .val (.int p2), .val (.int p3), .val (.ref x2), .val (.ref x22), .val (.ref x2), .unset] [(.int (Int32.ofNat cs2.length))])) _
        refine S.aload X.here hx (hb hby at_73) rfl rfl ?_
        exact k)
    obtain ⟨v34, h34, Q34, K34, z34, w34⟩ := w33.callV hx (C := "java/lang/String") (y := (⟨"java/lang/String", "length", "()I"⟩ : MethodName)) (z := (⟨"java/lang/String", "length", "()I"⟩ : MethodName)) (W := 1) (hw _ (List.mem_of_getElem? (i := 63) rfl)) (hw _ (List.mem_of_getElem? (i := 64) rfl)) (hw _ (List.mem_of_getElem? (i := 66) rfl)) (hw _ (List.mem_of_getElem? (i := 65) rfl)) (w33.nf (hw _ (List.mem_of_getElem? (i := 66) rfl))) (by decide) (payLen hG w33.hZ hq_lenW (hw _ (List.mem_of_getElem? (i := 5) rfl)) F31 F26 (by decide) (by decide)) F31.exa rfl (by rw [hml]; rfl) [(.int (Int32.ofNat cs2.length))] (lenOf pd_8 rfl) rfl (by show 2 * 0 + _ ≤ _; exact Nat.le_of_eq rfl) (hb hby at_75) (by decide) (by decide) (fun _ q => nomatch q) (fun rv => (mkF m 78 #[.val (.int p0), .val (.int p1), .val (.int p2), .val (.int p3), .val (.ref x2), .val (.ref x22), .val (.ref x2), .unset] (rv.toList ++ [(.int (Int32.ofNat cs2.length))]))) (fun _ => rfl)
    obtain ⟨rfl, rfl⟩ := Q34
    have w35 := w34.pure (mkF m 85 #[.val (.int p0), .val (.int p1), .val (.int p2), .val (.int p3), .val (.ref x2), .val (.ref x22), .val (.ref x2), .unset] [(.ref x2), (.ref x2)]) (fun X eT hZ hown k => by
        show Steps _ _ _ (State.setTop _ (mkF m 78 #[.val (.int p0), .val (.int p1), .val (.int p2), .val (.int p3), .val (.ref x2), .val (.ref x22), .val (.ref x2), .unset] [(.int (Int32.ofNat cs2.length)), (.int (Int32.ofNat cs2.length))])) _
        refine S.icmpNo X.here hx (hb hby at_78) (teq (rfl : (Int32.ofNat cs2.length) = (Int32.ofNat cs2.length))).2 ?_
        refine S.aload X.here hx (hb hby at_81) rfl rfl ?_
        refine S.aload X.here hx (hb hby at_83) rfl rfl ?_
        exact k)
    obtain ⟨v36, h36, Q36, K36, z36, w36⟩ := w35.callV hx (C := "java/lang/String") (y := (⟨"java/lang/String", "equals", "(Ljava/lang/Object;)Z"⟩ : MethodName)) (z := (⟨"java/lang/String", "equals", "(Ljava/lang/Object;)Z"⟩ : MethodName)) (W := 0) (hw _ (List.mem_of_getElem? (i := 74) rfl)) (hw _ (List.mem_of_getElem? (i := 75) rfl)) (hw _ (List.mem_of_getElem? (i := 77) rfl)) (hw _ (List.mem_of_getElem? (i := 76) rfl)) (w35.nf (hw _ (List.mem_of_getElem? (i := 77) rfl))) (by decide) ((rmes l Z a0 hw x2 h22 n0 (by omega) ).pay w35.hZ (hw _ (List.mem_of_getElem? (i := 78) rfl)) (hw _ (List.mem_of_getElem? (i := 6) rfl)) (by decide) (by decide)) ((F31.exa)) rfl (by rw [hml]; rfl) [] (lenOf pd_9 rfl) rfl (by show 2 * 0 + _ ≤ _; exact Nat.le_of_eq rfl) (hb hby at_85) (by decide) (by decide) (fun _ q => nomatch q) (fun rv => (mkF m 88 #[.val (.int p0), .val (.int p1), .val (.int p2), .val (.int p3), .val (.ref x2), .val (.ref x22), .val (.ref x2), .unset] (rv.toList ++ []))) (fun _ => rfl)
    obtain ⟨rfl, rfl⟩ := Q36
    have w37 := w36.pure (mkF m 105 #[.val (.int p0), .val (.int p1), .val (.int p2), .val (.int p3), .val (.ref x2), .val (.ref x22), .val (.ref x2), .val (.int (1 : Int32))] [(.ref x22)]) (fun X eT hZ hown k => by
        show Steps _ _ _ (State.setTop _ (mkF m 88 #[.val (.int p0), .val (.int p1), .val (.int p2), .val (.int p3), .val (.ref x2), .val (.ref x22), .val (.ref x2), .unset] [(.int (1 : Int32))])) _
        refine S.ifNo X.here hx (hb hby at_88) (by decide) ?_
        refine S.iconst X.here hx (1 : Int32) (hb hby at_91) rfl ?_
        refine S.goto X.here hx 96 (hb hby at_92) (by decide) (by decide) ?_
        refine S.istore X.here hx (hb hby at_96) #[.val (.int p0), .val (.int p1), .val (.int p2), .val (.int p3), .val (.ref x2), .val (.ref x22), .val (.ref x2), .val (.int (1 : Int32))] rfl ?_
        refine S.iload X.here hx (hb hby at_98) rfl ?_
        refine S.ifNo X.here hx (hb hby at_100) (by decide) ?_
        refine S.aload X.here hx (hb hby at_103) rfl rfl ?_
        exact k)
    obtain ⟨v38, h38, Q38, K38, z38, w38⟩ := w37.callV hx (C := "com/example/unified_lexicon/unifiedlexicon/formats/RdfXml$Term") (y := (⟨"com/example/unified_lexicon/unifiedlexicon/formats/RdfXml$Term", "language", "()Ljava/lang/String;"⟩ : MethodName)) (z := (⟨"com/example/unified_lexicon/unifiedlexicon/formats/RdfXml$Term", "language", "()Ljava/lang/String;"⟩ : MethodName)) (W := 0) (hw _ (List.mem_of_getElem? (i := 79) rfl)) (hw _ (List.mem_of_getElem? (i := 80) rfl)) (hw _ (List.mem_of_getElem? (i := 82) rfl)) (hw _ (List.mem_of_getElem? (i := 81) rfl)) (w37.nf (hw _ (List.mem_of_getElem? (i := 82) rfl))) (by decide) ((rm13 l Z a0 hw x22 .null rfl h22 n0 (by omega) G22_2).pay w37.hZ (hw _ (List.mem_of_getElem? (i := 83) rfl)) (hw _ (List.mem_of_getElem? (i := 28) rfl)) (by decide) (by decide)) E22x rfl (by rw [hml]; rfl) [] (lenOf pd_7 rfl) rfl (by show 2 * 0 + _ ≤ _; exact Nat.le_of_eq rfl) (hb hby at_105) (by decide) (by decide) (fun _ q => nomatch q) (fun rv => (mkF m 108 #[.val (.int p0), .val (.int p1), .val (.int p2), .val (.int p3), .val (.ref x2), .val (.ref x22), .val (.ref x2), .val (.int (1 : Int32))] (rv.toList ++ []))) (fun _ => rfl)
    obtain ⟨rfl, rfl⟩ := Q38
    have w39 := w38.pure (mkF m 113 #[.val (.int p0), .val (.int p1), .val (.int p2), .val (.int p3), .val (.ref x2), .val (.ref x22), .val (.ref x2), .val (.int (1 : Int32))] [(.ref x22)]) (fun X eT hZ hown k => by
        show Steps _ _ _ (State.setTop _ (mkF m 108 #[.val (.int p0), .val (.int p1), .val (.int p2), .val (.int p3), .val (.ref x2), .val (.ref x22), .val (.ref x2), .val (.int (1 : Int32))] [.null])) _
        refine S.ifnonnullNo X.here hx (hb hby at_108) ?_
        refine S.aload X.here hx (hb hby at_111) rfl rfl ?_
        exact k)
    obtain ⟨v40, h40, Q40, K40, z40, w40⟩ := w39.callV hx (C := "com/example/unified_lexicon/unifiedlexicon/formats/RdfXml$Term") (y := (⟨"com/example/unified_lexicon/unifiedlexicon/formats/RdfXml$Term", "datatype", "()Ljava/lang/String;"⟩ : MethodName)) (z := (⟨"com/example/unified_lexicon/unifiedlexicon/formats/RdfXml$Term", "datatype", "()Ljava/lang/String;"⟩ : MethodName)) (W := 0) (hw _ (List.mem_of_getElem? (i := 84) rfl)) (hw _ (List.mem_of_getElem? (i := 85) rfl)) (hw _ (List.mem_of_getElem? (i := 87) rfl)) (hw _ (List.mem_of_getElem? (i := 86) rfl)) (w39.nf (hw _ (List.mem_of_getElem? (i := 87) rfl))) (by decide) ((rm14 l Z a0 hw x22 .null rfl h22 n0 (by omega) G22_3).pay w39.hZ (hw _ (List.mem_of_getElem? (i := 88) rfl)) (hw _ (List.mem_of_getElem? (i := 28) rfl)) (by decide) (by decide)) E22x rfl (by rw [hml]; rfl) [] (lenOf pd_7 rfl) rfl (by show 2 * 0 + _ ≤ _; exact Nat.le_of_eq rfl) (hb hby at_113) (by decide) (by decide) (fun _ q => nomatch q) (fun rv => (mkF m 116 #[.val (.int p0), .val (.int p1), .val (.int p2), .val (.int p3), .val (.ref x2), .val (.ref x22), .val (.ref x2), .val (.int (1 : Int32))] (rv.toList ++ []))) (fun _ => rfl)
    obtain ⟨rfl, rfl⟩ := Q40
    have w41 := w40.pure (mkF m 124 #[.val (.int p0), .val (.int p1), .val (.int p2), .val (.int p3), .val (.ref x2), .val (.ref x22), .val (.ref x2), .val (.int (1 : Int32))] [(.int (1 : Int32))]) (fun X eT hZ hown k => by
        show Steps _ _ _ (State.setTop _ (mkF m 116 #[.val (.int p0), .val (.int p1), .val (.int p2), .val (.int p3), .val (.ref x2), .val (.ref x22), .val (.ref x2), .val (.int (1 : Int32))] [.null])) _
        refine S.ifnonnullNo X.here hx (hb hby at_116) ?_
        refine S.iconst X.here hx (1 : Int32) (hb hby at_119) rfl ?_
        refine S.goto X.here hx 124 (hb hby at_120) (by decide) (by decide) ?_
        exact k)
    exact w41.endW (v := some (.int (1 : Int32))) (Q := (fun v h => v = some (.int 1))) (wr := []) (h0 := h0) (fun h => by rw [Bd.returns] at h; cases h) Bd.notSynchronized (fun X hr => retN X hx (t := .boolean) Bd.returns (by simp) (hb hby at_124) hr) (by decide) (by decide) rfl K23
set_option maxRecDepth 65536 in
set_option maxHeartbeats 40000000 in
theorem comes_1 {Post : Tables → Env → Array Value → State → Outcome → State → Prop} (hpost : ∀ tb e args s v u, (limb_1_1.after args s (.returned v) u = true ∧ limb_1_2.after args s (.returned v) u = true ∧ True) → ReturnedEndW s (.returned v) u (Jvm.fieldLocs frame_1_writes args s ++ Jvm.arrayLocs frame_1_arrays args s ++ Jvm.staticLocs frame_1_statics s) 24 1152 → Post tb e args s (.returned v) u) :
    ArmFor flags0 classFile x code maxLocals ret World_1 tables_1 room_1 Calls_1 rest_1 Pre_1 Post := by
  intro l hfl _ _ p e ha hc hk s m args below hf hA hF happ hP
  obtain ⟨hcalls, hrest, hpre⟩ := hP
  obtain ⟨-, -, -, hnamed, -, -, -, hat⟩ := (Spec.applies_iff hf).mp happ
  obtain ⟨hg, hn⟩ := and_e (Cond.before_iff.mp (show (Jvm.Cond.and given_1 narrow_1).before args s = true from hpre))
  obtain ⟨g0, r0⟩ := and_e hg
  obtain ⟨g1, r1⟩ := and_e r0
  obtain ⟨g2, r2⟩ := and_e r1
  obtain ⟨g3, r3⟩ := and_e r2
  obtain ⟨w0, w1, w2, w3, rfl⟩ : ∃ w0 w1 w2 w3 : Value, args = #[w0, w1, w2, w3] := by
    have hs : args.size = 4 := by simpa [Cond.value, given_1] using g0
    obtain ⟨L⟩ := args
    match L, hs with
    | [w0, w1, w2, w3], _ => exact ⟨w0, w1, w2, w3, rfl⟩
  have hw := fun d (hd : d ∈ tables_1) => atoms_spec (ws := Jvm.Cond.code x code maxLocals ret :: tables_1) hat d (List.mem_cons_of_mem _ hd)
  have hfit : Fit s := fun {y c} hc i hi => by
    obtain ⟨ha, rfl⟩ := Array.getElem?_eq_some_iff.mp hc
    have q := List.all_eq_true.mp ((Array.all_eq_true_iff_forall_mem.mp hF) _ (Array.getElem_mem ha)) i (List.mem_range.mpr hi)
    simpa [Array.getElem?_eq_getElem hi] using q
  obtain ⟨i0, e0⟩ := is_v g1
  obtain rfl : w0 = (.int i0) := Option.some.inj e0
  obtain ⟨i1, e1⟩ := is_v g2
  obtain rfl : w1 = (.int i1) := Option.some.inj e1
  obtain ⟨i2, e2⟩ := is_v g3
  obtain rfl : w2 = (.int i2) := Option.some.inj e2
  obtain ⟨i3, e3⟩ := is_v r3
  obtain rfl : w3 = (.int i3) := Option.some.inj e3
  obtain ⟨hsets, hown0⟩ := atoms_of _ (rest_1_c_eq ▸ (show rest_1_c.before _ s = true from hrest))
  have hG : SetsOk s := by
    have n5 := not_v (Cond.before_iff.mp (hsets _ (List.mem_of_getElem? (i := 2) rfl)))
    obtain ⟨i11, e10⟩ := is_v (Cond.before_iff.mp (hsets _ (List.mem_of_getElem? (i := 1) rfl)))
    obtain ⟨v13, e14, r15⟩ := isR_v (Cond.before_iff.mp (hsets _ (List.mem_of_getElem? (i := 8) rfl)))
    exact ⟨i11, v13, Sta.start e10 (Or.inl (hsets _ (List.mem_of_getElem? (i := 0) rfl))), gotF (Cond.eq_ints e10 (Term.int_eval (0))) n5, Sta.start e14 (Or.inl (hsets _ (List.mem_of_getElem? (i := 7) rfl))), r15⟩
  have hE : EW s _ consts_1 := (EW.cons (hw _ (List.mem_of_getElem? (i := 18) rfl)) (by decide) EW.nil)
  have hC : CHv s consts_1 s.vm s.heap := CHv.start hE hcalls.1 (hsets _ (List.mem_of_getElem? (i := 2) rfl)) (hw _ (List.mem_of_getElem? (i := 19) rfl)) (hw _ (List.mem_of_getElem? (i := 5) rfl))
  obtain ⟨o, eo⟩ := exa_v hn
  have SO : Sta s s.heap "com/example/unified_lexicon/unifiedlexicon/formats/RdfXml$Term$Kind" "IRI" "Lcom/example/unified_lexicon/unifiedlexicon/formats/RdfXml$Term$Kind;" (.ref o) := Sta.start eo (Or.inr ⟨(hw _ (List.mem_of_getElem? (i := 33) rfl)), (hw _ (List.mem_of_getElem? (i := 34) rfl))⟩)
  obtain ⟨n, o, h1, h2, h3, _, L, rfl, ⟨rfl, -, N⟩, -, hq⟩ := rm0 l s _ hw hE tables_1 i0 i1 i2 i3 o s.heap s.heap.size (Nat.le_refl _) hG SO (Old.start s) p e ha hc hk s m _ below hf ((Spec.applies_iff_loose hf).mp happ).1 ⟨rfl, State.Warmed39.refl s, rfl, hC, sf0⟩ trivial
  refine ⟨n, _, h1, h2, h3, hpost _ _ _ _ _ _ ⟨Cond.after_iff.mpr rfl, Cond.after_iff.mpr (eq_i res_at (Term.int_eval (1)) rfl), trivial⟩ ⟨hq.1, hq.2.1, hq.2.2.1, (hq.2.2.2.sift fun y hy => Or.inr (N y hy)).mono (by decide) (by decide)⟩⟩
theorem main_1_1 : Claimed_1_1 := comes_1 fun _ _ _ _ _ _ h hF => ⟨h.1, hF⟩
theorem main_1_2 : Claimed_1_2 := comes_1 fun _ _ _ _ _ _ h hF => ⟨h.2.1, hF⟩
end Jvm.Pilot.@@N@@
namespace Jvm.Pilot.@@N@@
open Jvm Jvm.ClassFile Sem Op Lib Jvm.Free Jvm.Stand Jvm.Pilot.@@N@@.Jvm.D
/-! MADE BY PROGRAM (witnessworld.py) out of the Statement's table words and the real class files: 23 classes; the members and pool entries that the words name. The judged class is class 1, her method 2. -/
namespace start1
open Jvm.ClassFile
def u (s : String) : CpInfo := .utf8 (stringToUtf16 s)
/-- a pool by its gaps: so many unusable entries, then the entry; so many at the end -/
def gap : Nat → List CpInfo → List CpInfo
  | 0, r => r
  | n + 1, r => .unusable :: gap n r
def poolList (es : List (Nat × CpInfo)) (last : Nat) : List CpInfo := es.foldr (fun e r => gap e.1 (e.2 :: r)) (gap last [])
def pool (es : List (Nat × CpInfo)) (last : Nat) : Array CpInfo := ⟨poolList es last⟩
def fileOf (pool : Array CpInfo) (this : Nat) (attrs : Array Attribute := #[]) (ms : Array MethodInfo := #[]) (fl : Nat := 33) (sup : Nat := 0) (ifs : Array Nat := #[]) (fds : Array FieldInfo := #[]) : ClassFile where
  minorVersion := 0
  majorVersion := 65
  constantPool := pool
  accessFlags := fl
  thisClass := this
  superClass := sup
  interfaces := ifs
  fields := fds
  methods := ms
  attributes := attrs
def plain (name : String) (sup : Option ClassId) : Class where
  name := name
  kind := .ordinary
  loader := none
  accessFlags := 33
  super := sup
  interfaces := #[]
  cf := none
  fields := #[]
  methods := #[]
  instanceTypes := #[]
  staticTypes := #[]
  resolved := #[]
  callSites := []
  init := .initialized
  statics := none
  mirror := none

def pool0 : Array CpInfo := pool [(5, u "<init>"), (0, u "()V"), (1, .class_ 10), (1, u "java/lang/Object")] 113

def k0c0 : Code := { maxStack := 0, maxLocals := 1, code := object_method_1_code, exceptionTable := #[], attributes := #[] }
def k0m0 : Method := { name := "<init>", desc := "()V", sig := { parameters := [], returnType := none }, accessFlags := 1, code := some k0c0 }
/-- java/lang/Object -/
def k0 : Class := { plain "java/lang/Object" none with
  accessFlags := 33
  interfaces := #[]
  cf := some (fileOf pool0 8 #[] #[{ accessFlags := 1, nameIndex := 5, descriptorIndex := 6, attributes := #[] }] 33 0 #[] #[])
  fields := #[]
  methods := #[k0m0]
  instanceTypes := #[]
  staticTypes := #[]
  resolved := Array.replicate 124 none
  statics := none }

def pool1 : Array CpInfo := pool [(2, .class_ 4), (1, u "java/lang/Object"), (0, u "<init>"), (0, u "()V"), (0, .class_ 8), (0, u "java/lang/String"), (0, .methodref 7 10), (0, .nameAndType 5 11), (0, u "([C)V"), (0, .methodref 13 14), (0, .class_ 15), (0, .nameAndType 16 17), (0, u "com/example/unified_lexicon/unifiedlexicon/formats/TermIriPinLaw"), (0, u "drawn"), (0, u "(IIII)Ljava/lang/String;"), (0, .methodref 19 20), (0, .class_ 21), (0, .nameAndType 22 23), (0, u "com/example/unified_lexicon/unifiedlexicon/formats/RdfXml$Term"), (0, u "iri"), (0, u "(Ljava/lang/String;)Lcom/example/unified_lexicon/unifiedlexicon/formats/RdfXml$Term;"), (0, .methodref 19 25), (0, .nameAndType 26 27), (0, u "kind"), (0, u "()Lcom/example/unified_lexicon/unifiedlexicon/formats/RdfXml$Term$Kind;"), (0, .fieldref 29 30), (0, .class_ 31), (0, .nameAndType 32 33), (0, u "com/example/unified_lexicon/unifiedlexicon/formats/RdfXml$Term$Kind"), (0, u "IRI"), (0, u "Lcom/example/unified_lexicon/unifiedlexicon/formats/RdfXml$Term$Kind;"), (0, .methodref 19 35), (0, .nameAndType 36 37), (0, u "value"), (0, u "()Ljava/lang/String;"), (0, .methodref 7 39), (0, .nameAndType 40 41), (0, u "length"), (0, u "()I"), (0, .methodref 7 43), (0, .nameAndType 44 45), (0, u "equals"), (0, u "(Ljava/lang/Object;)Z"), (0, .methodref 19 47), (0, .nameAndType 48 37), (0, u "language"), (0, .methodref 19 50), (0, .nameAndType 51 37), (0, u "datatype"), (3, u "law"), (0, u "(IIII)Z")] 7

def k1m0 : Method := { name := "<init>", desc := "()V", sig := { parameters := [], returnType := none }, accessFlags := 2, code := none }
def k1c1 : Code := { maxStack := 6, maxLocals := 8, code := method_2_code, exceptionTable := #[], attributes := #[] }
def k1m1 : Method := { name := "drawn", desc := "(IIII)Ljava/lang/String;", sig := { parameters := [.int, .int, .int, .int], returnType := some (.object "java/lang/String") }, accessFlags := 10, code := some k1c1 }
def k1c2 : Code := { maxStack := 4, maxLocals := 8, code := code, exceptionTable := #[], attributes := #[] }
def k1m2 : Method := { name := "law", desc := "(IIII)Z", sig := { parameters := [.int, .int, .int, .int], returnType := some .boolean }, accessFlags := 9, code := some k1c2 }
/-- com/example/unified_lexicon/unifiedlexicon/formats/TermIriPinLaw -/
def k1 : Class := { plain "com/example/unified_lexicon/unifiedlexicon/formats/TermIriPinLaw" (some 0) with
  accessFlags := 49
  interfaces := #[]
  cf := some (fileOf pool1 13 #[] #[{ accessFlags := 2, nameIndex := 5, descriptorIndex := 6, attributes := #[] }, { accessFlags := 10, nameIndex := 16, descriptorIndex := 17, attributes := #[] }, { accessFlags := 9, nameIndex := 55, descriptorIndex := 56, attributes := #[] }] 49 2 #[] #[])
  fields := #[]
  methods := #[k1m0, k1m1, k1m2]
  instanceTypes := #[]
  staticTypes := #[]
  resolved := Array.replicate 64 none
  statics := none }

def pool2 : Array CpInfo := pool [(1, .class_ 2), (0, u "java/io/Serializable"), (0, .class_ 4), (0, u "java/lang/Object")] 2

/-- java/io/Serializable -/
def k2 : Class := { plain "java/io/Serializable" (some 0) with
  accessFlags := 1537
  interfaces := #[]
  cf := some (fileOf pool2 1 #[] #[] 1537 3 #[] #[])
  fields := #[]
  methods := #[]
  instanceTypes := #[]
  staticTypes := #[]
  resolved := Array.replicate 7 none
  statics := none }

def pool3 : Array CpInfo := pool [(1, .class_ 2), (0, u "java/lang/Comparable"), (0, .class_ 4), (0, u "java/lang/Object")] 7

/-- java/lang/Comparable -/
def k3 : Class := { plain "java/lang/Comparable" (some 0) with
  accessFlags := 1537
  interfaces := #[]
  cf := some (fileOf pool3 1 #[] #[] 1537 3 #[] #[])
  fields := #[]
  methods := #[]
  instanceTypes := #[]
  staticTypes := #[]
  resolved := Array.replicate 12 none
  statics := none }

def pool4 : Array CpInfo := pool [(2, .class_ 4), (1, u "java/lang/CharSequence"), (42, .class_ 48), (0, u "java/lang/CharSequence$1CodePointIterator"), (10, .class_ 60), (0, u "java/lang/CharSequence$1CharIterator"), (5, .class_ 67), (0, u "java/lang/Object")] 63

/-- java/lang/CharSequence -/
def k4 : Class := { plain "java/lang/CharSequence" (some 0) with
  accessFlags := 1537
  interfaces := #[]
  cf := some (fileOf pool4 2 #[.nestMembers #[47, 59]] #[] 1537 66 #[] #[])
  fields := #[]
  methods := #[]
  instanceTypes := #[]
  staticTypes := #[]
  resolved := Array.replicate 131 none
  statics := none }

def pool5 : Array CpInfo := pool [(1, .class_ 2), (0, u "java/lang/constant/Constable"), (0, .class_ 4), (0, u "java/lang/Object")] 6

/-- java/lang/constant/Constable -/
def k5 : Class := { plain "java/lang/constant/Constable" (some 0) with
  accessFlags := 1537
  interfaces := #[]
  cf := some (fileOf pool5 1 #[] #[] 1537 3 #[] #[])
  fields := #[]
  methods := #[]
  instanceTypes := #[]
  staticTypes := #[]
  resolved := Array.replicate 11 none
  statics := none }

def pool6 : Array CpInfo := pool [(1, .class_ 2), (0, u "java/lang/constant/ConstantDesc"), (0, .class_ 4), (0, u "java/lang/Object")] 32

/-- java/lang/constant/ConstantDesc -/
def k6 : Class := { plain "java/lang/constant/ConstantDesc" (some 0) with
  accessFlags := 1537
  interfaces := #[]
  cf := some (fileOf pool6 1 #[] #[] 1537 3 #[] #[])
  fields := #[]
  methods := #[]
  instanceTypes := #[]
  staticTypes := #[]
  resolved := Array.replicate 37 none
  statics := none }

def pool7 : Array CpInfo := pool [(1, .methodref 2 3), (0, .class_ 4), (0, .nameAndType 5 6), (0, u "java/lang/Object"), (0, u "<init>"), (0, u "()V"), (0, .string 8), (0, u ""), (0, .fieldref 10 11), (0, .class_ 12), (0, .nameAndType 13 14), (0, u "java/lang/String"), (0, u "value"), (0, u "[B"), (0, .fieldref 10 16), (0, .nameAndType 17 18), (0, u "coder"), (0, u "B"), (2, u "hash"), (0, u "I"), (2, u "hashIsZero"), (0, u "Z"), (0, .methodref 10 28), (0, .nameAndType 5 29), (0, u "([CIILjava/lang/Void;)V"), (8, .fieldref 10 39), (0, .nameAndType 40 26), (0, u "COMPACT_STRINGS"), (1, .class_ 44), (1, u "java/lang/StringUTF16"), (0, u "compress"), (1, .methodref 42 48), (0, .nameAndType 49 50), (0, u "coderFromArrayLen"), (0, u "([BI)B"), (126, .methodref 42 178), (0, .nameAndType 45 179), (0, u "([CII)[B"), (154, u "()I"), (0, .methodref 10 336), (0, .nameAndType 17 337), (0, u "()B"), (169, u "length"), (35, u "equals"), (29, u "(Ljava/lang/Object;)Z"), (1, .class_ 576), (0, u "java/lang/CharSequence"), (22, u "CASE_INSENSITIVE_ORDER"), (0, u "Ljava/util/Comparator;"), (409, u "([C)V"), (90, u "serialPersistentFields"), (0, u "[Ljava/io/ObjectStreamField;"), (0, .class_ 1104), (0, u "java/lang/String$CaseInsensitiveComparator"), (1, .class_ 1107), (0, u "java/io/Serializable"), (0, .class_ 1109), (0, u "java/lang/Comparable"), (0, .class_ 1111), (0, u "java/lang/constant/Constable"), (0, .class_ 1113), (0, u "java/lang/constant/ConstantDesc"), (2, u "serialVersionUID"), (0, u "J"), (3, u "REPL"), (0, u "C"), (2, u "LATIN1"), (1, u "UTF16")] 323

def k7m0 : Method := { name := "<init>", desc := "()V", sig := { parameters := [], returnType := none }, accessFlags := 1, code := none }
def k7c1 : Code := { maxStack := 5, maxLocals := 2, code := jdk_42_method_3_code, exceptionTable := #[], attributes := #[] }
def k7m1 : Method := { name := "<init>", desc := "([C)V", sig := { parameters := [(.array .char)], returnType := none }, accessFlags := 1, code := some k7c1 }
def k7c2 : Code := { maxStack := 2, maxLocals := 1, code := jdk_42_method_54_code, exceptionTable := #[], attributes := #[] }
def k7m2 : Method := { name := "length", desc := "()I", sig := { parameters := [], returnType := some .int }, accessFlags := 1, code := some k7c2 }
def k7c3 : Code := { maxStack := 2, maxLocals := 3, code := jdk_42_method_66_code, exceptionTable := #[], attributes := #[] }
def k7m3 : Method := { name := "equals", desc := "(Ljava/lang/Object;)Z", sig := { parameters := [(.object "java/lang/Object")], returnType := some .boolean }, accessFlags := 1, code := some k7c3 }
def k7c4 : Code := { maxStack := 4, maxLocals := 6, code := jdk_42_method_149_code, exceptionTable := #[], attributes := #[] }
def k7m4 : Method := { name := "<init>", desc := "([CIILjava/lang/Void;)V", sig := { parameters := [(.array .char), .int, .int, (.object "java/lang/Void")], returnType := none }, accessFlags := 2, code := some k7c4 }
def k7c5 : Code := { maxStack := 1, maxLocals := 1, code := jdk_42_method_152_code, exceptionTable := #[], attributes := #[] }
def k7m5 : Method := { name := "coder", desc := "()B", sig := { parameters := [], returnType := some .byte }, accessFlags := 0, code := some k7c5 }
/-- java/lang/String -/
def k7 : Class := { plain "java/lang/String" (some 0) with
  accessFlags := 49
  interfaces := #[2, 3, 4, 5, 6]
  cf := some (fileOf pool7 10 #[.nestMembers #[1103]] #[{ accessFlags := 1, nameIndex := 5, descriptorIndex := 6, attributes := #[] }, { accessFlags := 1, nameIndex := 5, descriptorIndex := 1010, attributes := #[] }, { accessFlags := 1, nameIndex := 507, descriptorIndex := 334, attributes := #[] }, { accessFlags := 1, nameIndex := 543, descriptorIndex := 573, attributes := #[] }, { accessFlags := 2, nameIndex := 5, descriptorIndex := 29, attributes := #[] }, { accessFlags := 0, nameIndex := 17, descriptorIndex := 337, attributes := #[] }] 49 2 #[1106, 1108, 575, 1110, 1112] #[{ accessFlags := 18, nameIndex := 13, descriptorIndex := 14, attributes := #[] }, { accessFlags := 18, nameIndex := 17, descriptorIndex := 18, attributes := #[] }, { accessFlags := 2, nameIndex := 21, descriptorIndex := 22, attributes := #[] }, { accessFlags := 2, nameIndex := 25, descriptorIndex := 26, attributes := #[] }, { accessFlags := 26, nameIndex := 1116, descriptorIndex := 1117, attributes := #[] }, { accessFlags := 24, nameIndex := 40, descriptorIndex := 26, attributes := #[] }, { accessFlags := 26, nameIndex := 1101, descriptorIndex := 1102, attributes := #[] }, { accessFlags := 26, nameIndex := 1121, descriptorIndex := 1122, attributes := #[] }, { accessFlags := 25, nameIndex := 599, descriptorIndex := 600, attributes := #[] }, { accessFlags := 24, nameIndex := 1125, descriptorIndex := 18, attributes := #[] }, { accessFlags := 24, nameIndex := 1127, descriptorIndex := 18, attributes := #[] }])
  fields := #[{ name := "value", type := (.array .byte), accessFlags := 18, slot := 0, constantValue := 0 }, { name := "coder", type := .byte, accessFlags := 18, slot := 1, constantValue := 0 }, { name := "hash", type := .int, accessFlags := 2, slot := 2, constantValue := 0 }, { name := "hashIsZero", type := .boolean, accessFlags := 2, slot := 3, constantValue := 0 }, { name := "serialVersionUID", type := .long, accessFlags := 26, slot := 0, constantValue := 0 }, { name := "COMPACT_STRINGS", type := .boolean, accessFlags := 24, slot := 1, constantValue := 0 }, { name := "serialPersistentFields", type := (.array (.object "java/io/ObjectStreamField")), accessFlags := 26, slot := 2, constantValue := 0 }, { name := "REPL", type := .char, accessFlags := 26, slot := 3, constantValue := 0 }, { name := "CASE_INSENSITIVE_ORDER", type := (.object "java/util/Comparator"), accessFlags := 25, slot := 4, constantValue := 0 }, { name := "LATIN1", type := .byte, accessFlags := 24, slot := 5, constantValue := 0 }, { name := "UTF16", type := .byte, accessFlags := 24, slot := 6, constantValue := 0 }]
  methods := #[k7m0, k7m1, k7m2, k7m3, k7m4, k7m5]
  instanceTypes := #[(.array .byte), .byte, .int, .boolean]
  staticTypes := #[.long, .boolean, (.array (.object "java/io/ObjectStreamField")), .char, (.object "java/util/Comparator"), .byte, .byte]
  resolved := Array.replicate 1451 none
  statics := some 0 }

def pool8 : Array CpInfo := pool [(1, .methodref 2 3), (0, .class_ 4), (0, .nameAndType 5 6), (0, u "java/lang/Object"), (0, u "<init>"), (0, u "()V"), (0, .class_ 8), (0, u "java/lang/Record")] 13

def k8c0 : Code := { maxStack := 1, maxLocals := 1, code := jdk_30_method_1_code, exceptionTable := #[], attributes := #[] }
def k8m0 : Method := { name := "<init>", desc := "()V", sig := { parameters := [], returnType := none }, accessFlags := 4, code := some k8c0 }
/-- java/lang/Record -/
def k8 : Class := { plain "java/lang/Record" (some 0) with
  accessFlags := 1057
  interfaces := #[]
  cf := some (fileOf pool8 7 #[] #[{ accessFlags := 4, nameIndex := 5, descriptorIndex := 6, attributes := #[] }] 1057 2 #[] #[])
  fields := #[]
  methods := #[k8m0]
  instanceTypes := #[]
  staticTypes := #[]
  resolved := Array.replicate 22 none
  statics := none }

def pool9 : Array CpInfo := pool [(1, .methodref 2 3), (0, .class_ 4), (0, .nameAndType 5 6), (0, u "java/lang/Record"), (0, u "<init>"), (0, u "()V"), (0, .fieldref 8 9), (0, .class_ 10), (0, .nameAndType 11 12), (0, u "com/example/unified_lexicon/unifiedlexicon/formats/RdfXml$Term"), (0, u "kind"), (0, u "Lcom/example/unified_lexicon/unifiedlexicon/formats/RdfXml$Term$Kind;"), (0, .fieldref 8 14), (0, .nameAndType 15 16), (0, u "value"), (0, u "Ljava/lang/String;"), (0, .fieldref 8 18), (0, .nameAndType 19 16), (0, u "language"), (0, .fieldref 8 21), (0, .nameAndType 22 16), (0, u "datatype"), (0, .fieldref 24 25), (0, .class_ 26), (0, .nameAndType 27 12), (0, u "com/example/unified_lexicon/unifiedlexicon/formats/RdfXml$Term$Kind"), (0, u "IRI"), (0, .methodref 8 29), (0, .nameAndType 5 30), (0, u "(Lcom/example/unified_lexicon/unifiedlexicon/formats/RdfXml$Term$Kind;Ljava/lang/String;Ljava/lang/String;Ljava/lang/String;)V"), (15, u "iri"), (0, u "(Ljava/lang/String;)Lcom/example/unified_lexicon/unifiedlexicon/formats/RdfXml$Term;"), (0, u "()Ljava/lang/String;"), (2, u "()Lcom/example/unified_lexicon/unifiedlexicon/formats/RdfXml$Term$Kind;"), (3, .class_ 56), (0, u "com/example/unified_lexicon/unifiedlexicon/formats/RdfXml")] 23

def k9c0 : Code := { maxStack := 2, maxLocals := 5, code := prog_45_method_1_code, exceptionTable := #[], attributes := #[] }
def k9m0 : Method := { name := "<init>", desc := "(Lcom/example/unified_lexicon/unifiedlexicon/formats/RdfXml$Term$Kind;Ljava/lang/String;Ljava/lang/String;Ljava/lang/String;)V", sig := { parameters := [(.object "com/example/unified_lexicon/unifiedlexicon/formats/RdfXml$Term$Kind"), (.object "java/lang/String"), (.object "java/lang/String"), (.object "java/lang/String")], returnType := none }, accessFlags := 0, code := some k9c0 }
def k9c1 : Code := { maxStack := 6, maxLocals := 1, code := prog_45_method_2_code, exceptionTable := #[], attributes := #[] }
def k9m1 : Method := { name := "iri", desc := "(Ljava/lang/String;)Lcom/example/unified_lexicon/unifiedlexicon/formats/RdfXml$Term;", sig := { parameters := [(.object "java/lang/String")], returnType := some (.object "com/example/unified_lexicon/unifiedlexicon/formats/RdfXml$Term") }, accessFlags := 8, code := some k9c1 }
def k9c2 : Code := { maxStack := 1, maxLocals := 1, code := prog_45_method_6_code, exceptionTable := #[], attributes := #[] }
def k9m2 : Method := { name := "kind", desc := "()Lcom/example/unified_lexicon/unifiedlexicon/formats/RdfXml$Term$Kind;", sig := { parameters := [], returnType := some (.object "com/example/unified_lexicon/unifiedlexicon/formats/RdfXml$Term$Kind") }, accessFlags := 1, code := some k9c2 }
def k9c3 : Code := { maxStack := 1, maxLocals := 1, code := prog_45_method_7_code, exceptionTable := #[], attributes := #[] }
def k9m3 : Method := { name := "value", desc := "()Ljava/lang/String;", sig := { parameters := [], returnType := some (.object "java/lang/String") }, accessFlags := 1, code := some k9c3 }
def k9c4 : Code := { maxStack := 1, maxLocals := 1, code := prog_45_method_8_code, exceptionTable := #[], attributes := #[] }
def k9m4 : Method := { name := "language", desc := "()Ljava/lang/String;", sig := { parameters := [], returnType := some (.object "java/lang/String") }, accessFlags := 1, code := some k9c4 }
def k9c5 : Code := { maxStack := 1, maxLocals := 1, code := prog_45_method_9_code, exceptionTable := #[], attributes := #[] }
def k9m5 : Method := { name := "datatype", desc := "()Ljava/lang/String;", sig := { parameters := [], returnType := some (.object "java/lang/String") }, accessFlags := 1, code := some k9c5 }
/-- com/example/unified_lexicon/unifiedlexicon/formats/RdfXml$Term -/
def k9 : Class := { plain "com/example/unified_lexicon/unifiedlexicon/formats/RdfXml$Term" (some 8) with
  accessFlags := 48
  interfaces := #[]
  cf := some (fileOf pool9 8 #[.nestHost 55] #[{ accessFlags := 0, nameIndex := 5, descriptorIndex := 30, attributes := #[] }, { accessFlags := 8, nameIndex := 46, descriptorIndex := 47, attributes := #[] }, { accessFlags := 1, nameIndex := 11, descriptorIndex := 51, attributes := #[] }, { accessFlags := 1, nameIndex := 15, descriptorIndex := 48, attributes := #[] }, { accessFlags := 1, nameIndex := 19, descriptorIndex := 48, attributes := #[] }, { accessFlags := 1, nameIndex := 22, descriptorIndex := 48, attributes := #[] }] 48 2 #[] #[{ accessFlags := 18, nameIndex := 11, descriptorIndex := 12, attributes := #[] }, { accessFlags := 18, nameIndex := 15, descriptorIndex := 16, attributes := #[] }, { accessFlags := 18, nameIndex := 19, descriptorIndex := 16, attributes := #[] }, { accessFlags := 18, nameIndex := 22, descriptorIndex := 16, attributes := #[] }])
  fields := #[{ name := "kind", type := (.object "com/example/unified_lexicon/unifiedlexicon/formats/RdfXml$Term$Kind"), accessFlags := 18, slot := 0, constantValue := 0 }, { name := "value", type := (.object "java/lang/String"), accessFlags := 18, slot := 1, constantValue := 0 }, { name := "language", type := (.object "java/lang/String"), accessFlags := 18, slot := 2, constantValue := 0 }, { name := "datatype", type := (.object "java/lang/String"), accessFlags := 18, slot := 3, constantValue := 0 }]
  methods := #[k9m0, k9m1, k9m2, k9m3, k9m4, k9m5]
  instanceTypes := #[(.object "com/example/unified_lexicon/unifiedlexicon/formats/RdfXml$Term$Kind"), (.object "java/lang/String"), (.object "java/lang/String"), (.object "java/lang/String")]
  staticTypes := #[]
  resolved := Array.replicate 80 none
  statics := none }

def pool10 : Array CpInfo := pool [(2, .class_ 4), (1, u "java/lang/Enum"), (0, u "name"), (0, u "Ljava/lang/String;"), (2, u "ordinal"), (0, u "I"), (1, .class_ 14), (1, u "java/lang/Object"), (4, u "hash"), (86, .class_ 108), (1, u "java/lang/Enum$EnumDesc"), (2, .class_ 112), (0, u "java/lang/constant/Constable"), (0, .class_ 114), (0, u "java/lang/Comparable"), (0, .class_ 116), (0, u "java/io/Serializable")] 87

/-- java/lang/Enum -/
def k10 : Class := { plain "java/lang/Enum" (some 0) with
  accessFlags := 1057
  interfaces := #[5, 3, 2]
  cf := some (fileOf pool10 2 #[.nestMembers #[106]] #[] 1057 12 #[111, 113, 115] #[{ accessFlags := 18, nameIndex := 5, descriptorIndex := 6, attributes := #[] }, { accessFlags := 18, nameIndex := 9, descriptorIndex := 10, attributes := #[] }, { accessFlags := 2, nameIndex := 19, descriptorIndex := 10, attributes := #[] }])
  fields := #[{ name := "name", type := (.object "java/lang/String"), accessFlags := 18, slot := 0, constantValue := 0 }, { name := "ordinal", type := .int, accessFlags := 18, slot := 1, constantValue := 0 }, { name := "hash", type := .int, accessFlags := 2, slot := 2, constantValue := 0 }]
  methods := #[]
  instanceTypes := #[(.object "java/lang/String"), .int, .int]
  staticTypes := #[]
  resolved := Array.replicate 204 none
  statics := none }

def pool11 : Array CpInfo := pool [(1, .class_ 2), (0, u "com/example/unified_lexicon/unifiedlexicon/formats/RdfXml$Term$Kind"), (2, u "IRI"), (0, u "Lcom/example/unified_lexicon/unifiedlexicon/formats/RdfXml$Term$Kind;"), (2, u "BLANK"), (2, u "LITERAL"), (2, u "$VALUES"), (0, u "[Lcom/example/unified_lexicon/unifiedlexicon/formats/RdfXml$Term$Kind;"), (6, .class_ 25), (1, u "java/lang/Enum"), (26, .class_ 53), (0, u "com/example/unified_lexicon/unifiedlexicon/formats/RdfXml")] 5

/-- com/example/unified_lexicon/unifiedlexicon/formats/RdfXml$Term$Kind -/
def k11 : Class := { plain "com/example/unified_lexicon/unifiedlexicon/formats/RdfXml$Term$Kind" (some 10) with
  accessFlags := 16432
  interfaces := #[]
  cf := some (fileOf pool11 1 #[.nestHost 52] #[] 16432 23 #[] #[{ accessFlags := 16409, nameIndex := 5, descriptorIndex := 6, attributes := #[] }, { accessFlags := 16409, nameIndex := 9, descriptorIndex := 6, attributes := #[] }, { accessFlags := 16409, nameIndex := 12, descriptorIndex := 6, attributes := #[] }, { accessFlags := 4122, nameIndex := 15, descriptorIndex := 16, attributes := #[] }])
  fields := #[{ name := "IRI", type := (.object "com/example/unified_lexicon/unifiedlexicon/formats/RdfXml$Term$Kind"), accessFlags := 16409, slot := 0, constantValue := 0 }, { name := "BLANK", type := (.object "com/example/unified_lexicon/unifiedlexicon/formats/RdfXml$Term$Kind"), accessFlags := 16409, slot := 1, constantValue := 0 }, { name := "LITERAL", type := (.object "com/example/unified_lexicon/unifiedlexicon/formats/RdfXml$Term$Kind"), accessFlags := 16409, slot := 2, constantValue := 0 }, { name := "$VALUES", type := (.array (.object "com/example/unified_lexicon/unifiedlexicon/formats/RdfXml$Term$Kind")), accessFlags := 4122, slot := 3, constantValue := 0 }]
  methods := #[]
  instanceTypes := #[(.object "java/lang/String"), .int, .int]
  staticTypes := #[(.object "com/example/unified_lexicon/unifiedlexicon/formats/RdfXml$Term$Kind"), (.object "com/example/unified_lexicon/unifiedlexicon/formats/RdfXml$Term$Kind"), (.object "com/example/unified_lexicon/unifiedlexicon/formats/RdfXml$Term$Kind"), (.array (.object "com/example/unified_lexicon/unifiedlexicon/formats/RdfXml$Term$Kind"))]
  resolved := Array.replicate 59 none
  statics := some 1 }

def pool12 : Array CpInfo := pool [(6, .class_ 8), (1, u "java/lang/Object"), (0, u "<init>"), (0, u "()V"), (1, .class_ 14), (1, u "java/lang/StringUTF16"), (31, u "$assertionsDisabled"), (0, u "Z"), (13, u "HI_BYTE_SHIFT"), (0, u "I"), (2, u "LO_BYTE_SHIFT"), (49, .methodref 12 116), (0, .nameAndType 117 118), (0, u "compress"), (0, u "([CI[BII)I"), (3, u "([CII)[B"), (138, u "coderFromArrayLen"), (0, u "([BI)B"), (106, .class_ 371), (1, u "java/lang/StringUTF16$LinesSpliterator"), (58, u "MAX_LENGTH"), (196, .class_ 628), (0, u "java/lang/StringUTF16$CodePointsSpliterator"), (0, .class_ 630), (0, u "java/lang/StringUTF16$CharsSpliterator")] 4

def k12m0 : Method := { name := "<init>", desc := "()V", sig := { parameters := [], returnType := none }, accessFlags := 0, code := none }
def k12c1 : Code := { maxStack := 2, maxLocals := 2, code := jdk_52_method_15_code, exceptionTable := #[], attributes := #[] }
def k12m1 : Method := { name := "coderFromArrayLen", desc := "([BI)B", sig := { parameters := [(.array .byte), .int], returnType := some .byte }, accessFlags := 8, code := some k12c1 }
def k12c2 : Code := { maxStack := 5, maxLocals := 6, code := jdk_52_method_16_code, exceptionTable := #[], attributes := #[] }
def k12m2 : Method := { name := "compress", desc := "([CII)[B", sig := { parameters := [(.array .char), .int, .int], returnType := some (.array .byte) }, accessFlags := 9, code := some k12c2 }
def k12c3 : Code := { maxStack := 3, maxLocals := 7, code := jdk_52_method_21_code, exceptionTable := #[], attributes := #[] }
def k12m3 : Method := { name := "compress", desc := "([CI[BII)I", sig := { parameters := [(.array .char), .int, (.array .byte), .int, .int], returnType := some .int }, accessFlags := 9, code := some k12c3 }
/-- java/lang/StringUTF16 -/
def k12 : Class := { plain "java/lang/StringUTF16" (some 0) with
  accessFlags := 48
  interfaces := #[]
  cf := some (fileOf pool12 12 #[.nestMembers #[627, 629, 369]] #[{ accessFlags := 0, nameIndex := 9, descriptorIndex := 10, attributes := #[] }, { accessFlags := 8, nameIndex := 261, descriptorIndex := 262, attributes := #[] }, { accessFlags := 9, nameIndex := 117, descriptorIndex := 122, attributes := #[] }, { accessFlags := 9, nameIndex := 117, descriptorIndex := 118, attributes := #[] }] 48 6 #[] #[{ accessFlags := 26, nameIndex := 61, descriptorIndex := 62, attributes := #[] }, { accessFlags := 26, nameIndex := 65, descriptorIndex := 62, attributes := #[] }, { accessFlags := 24, nameIndex := 430, descriptorIndex := 62, attributes := #[] }, { accessFlags := 4120, nameIndex := 46, descriptorIndex := 47, attributes := #[] }])
  fields := #[{ name := "HI_BYTE_SHIFT", type := .int, accessFlags := 26, slot := 0, constantValue := 0 }, { name := "LO_BYTE_SHIFT", type := .int, accessFlags := 26, slot := 1, constantValue := 0 }, { name := "MAX_LENGTH", type := .int, accessFlags := 24, slot := 2, constantValue := 0 }, { name := "$assertionsDisabled", type := .boolean, accessFlags := 4120, slot := 3, constantValue := 0 }]
  methods := #[k12m0, k12m1, k12m2, k12m3]
  instanceTypes := #[]
  staticTypes := #[.int, .int, .int, .boolean]
  resolved := Array.replicate 635 none
  statics := none }

def pool13 : Array CpInfo := pool [(4, .class_ 6), (1, u "java/lang/Object"), (0, u "<init>"), (0, u "()V"), (5, .class_ 16), (1, u "java/lang/StringLatin1"), (104, u "$assertionsDisabled"), (0, u "Z"), (98, .class_ 223), (1, u "java/lang/StringLatin1$LinesSpliterator"), (166, .class_ 391), (0, u "java/lang/StringLatin1$CharsSpliterator")] 3

def k13m0 : Method := { name := "<init>", desc := "()V", sig := { parameters := [], returnType := none }, accessFlags := 0, code := none }
/-- java/lang/StringLatin1 -/
def k13 : Class := { plain "java/lang/StringLatin1" (some 0) with
  accessFlags := 48
  interfaces := #[]
  cf := some (fileOf pool13 14 #[.nestMembers #[390, 221]] #[{ accessFlags := 0, nameIndex := 7, descriptorIndex := 8, attributes := #[] }] 48 4 #[] #[{ accessFlags := 4120, nameIndex := 121, descriptorIndex := 122, attributes := #[] }])
  fields := #[{ name := "$assertionsDisabled", type := .boolean, accessFlags := 4120, slot := 0, constantValue := 0 }]
  methods := #[k13m0]
  instanceTypes := #[]
  staticTypes := #[.boolean]
  resolved := Array.replicate 395 none
  statics := none }

def pool14 : Array CpInfo := pool [(2, .class_ 4), (1, u "java/lang/Object"), (0, u "<init>"), (0, u "()V"), (17, .class_ 26), (1, u "jdk/internal/util/Preconditions"), (28, .class_ 56), (0, u "jdk/internal/util/Preconditions$4"), (57, .class_ 115), (0, u "jdk/internal/util/Preconditions$1"), (7, u "SIOOBE_FORMATTER"), (0, u "Ljava/util/function/BiFunction;"), (0, .class_ 126), (0, u "jdk/internal/util/Preconditions$2"), (3, u "AIOOBE_FORMATTER"), (0, .class_ 132), (0, u "jdk/internal/util/Preconditions$3"), (3, u "IOOBE_FORMATTER")] 57

def k14m0 : Method := { name := "<init>", desc := "()V", sig := { parameters := [], returnType := none }, accessFlags := 1, code := none }
/-- jdk/internal/util/Preconditions -/
def k14 : Class := { plain "jdk/internal/util/Preconditions" (some 0) with
  accessFlags := 33
  interfaces := #[]
  cf := some (fileOf pool14 24 #[.nestMembers #[55, 131, 125, 114]] #[{ accessFlags := 1, nameIndex := 5, descriptorIndex := 6, attributes := #[] }] 33 2 #[] #[{ accessFlags := 25, nameIndex := 123, descriptorIndex := 124, attributes := #[] }, { accessFlags := 25, nameIndex := 130, descriptorIndex := 124, attributes := #[] }, { accessFlags := 25, nameIndex := 136, descriptorIndex := 124, attributes := #[] }])
  fields := #[{ name := "SIOOBE_FORMATTER", type := (.object "java/util/function/BiFunction"), accessFlags := 25, slot := 0, constantValue := 0 }, { name := "AIOOBE_FORMATTER", type := (.object "java/util/function/BiFunction"), accessFlags := 25, slot := 1, constantValue := 0 }, { name := "IOOBE_FORMATTER", type := (.object "java/util/function/BiFunction"), accessFlags := 25, slot := 2, constantValue := 0 }]
  methods := #[k14m0]
  instanceTypes := #[]
  staticTypes := #[(.object "java/util/function/BiFunction"), (.object "java/util/function/BiFunction"), (.object "java/util/function/BiFunction")]
  resolved := Array.replicate 194 none
  statics := some 2 }

def pool15 : Array CpInfo := pool [(9, u "<init>"), (6, .class_ 18), (1, u "java/lang/Object"), (0, u "()V"), (1, .class_ 23), (1, u "jdk/internal/util/ArraysSupport"), (0, u "LOG2_ARRAY_LONG_INDEX_SCALE"), (0, u "I"), (2, u "U"), (0, u "Ljdk/internal/misc/Unsafe;"), (8, u "BIG_ENDIAN"), (0, u "Z"), (8, u "LOG2_BYTE_BIT_SIZE"), (4, u "LOG2_ARRAY_INT_INDEX_SCALE"), (54, u "JLA"), (0, u "Ljdk/internal/access/JavaLangAccess;"), (11, u "LOG2_ARRAY_BOOLEAN_INDEX_SCALE"), (9, u "LOG2_ARRAY_BYTE_INDEX_SCALE"), (5, u "LOG2_ARRAY_CHAR_INDEX_SCALE"), (5, u "LOG2_ARRAY_SHORT_INDEX_SCALE"), (18, u "LOG2_ARRAY_FLOAT_INDEX_SCALE"), (24, u "LOG2_ARRAY_DOUBLE_INDEX_SCALE"), (89, u "T_BOOLEAN"), (2, u "T_CHAR"), (1, u "T_FLOAT"), (1, u "T_DOUBLE"), (1, u "T_BYTE"), (1, u "T_SHORT"), (1, u "T_INT"), (1, u "T_LONG"), (1, u "SOFT_MAX_ARRAY_LENGTH")] 83

def k15m0 : Method := { name := "<init>", desc := "()V", sig := { parameters := [], returnType := none }, accessFlags := 2, code := none }
/-- jdk/internal/util/ArraysSupport -/
def k15 : Class := { plain "jdk/internal/util/ArraysSupport" (some 0) with
  accessFlags := 33
  interfaces := #[]
  cf := some (fileOf pool15 21 #[] #[{ accessFlags := 2, nameIndex := 9, descriptorIndex := 19, attributes := #[] }] 33 16 #[] #[{ accessFlags := 24, nameIndex := 28, descriptorIndex := 29, attributes := #[] }, { accessFlags := 26, nameIndex := 38, descriptorIndex := 39, attributes := #[] }, { accessFlags := 25, nameIndex := 121, descriptorIndex := 25, attributes := #[] }, { accessFlags := 25, nameIndex := 131, descriptorIndex := 25, attributes := #[] }, { accessFlags := 25, nameIndex := 137, descriptorIndex := 25, attributes := #[] }, { accessFlags := 25, nameIndex := 143, descriptorIndex := 25, attributes := #[] }, { accessFlags := 25, nameIndex := 53, descriptorIndex := 25, attributes := #[] }, { accessFlags := 25, nameIndex := 24, descriptorIndex := 25, attributes := #[] }, { accessFlags := 25, nameIndex := 162, descriptorIndex := 25, attributes := #[] }, { accessFlags := 25, nameIndex := 187, descriptorIndex := 25, attributes := #[] }, { accessFlags := 26, nameIndex := 48, descriptorIndex := 25, attributes := #[] }, { accessFlags := 25, nameIndex := 277, descriptorIndex := 25, attributes := #[] }, { accessFlags := 25, nameIndex := 280, descriptorIndex := 25, attributes := #[] }, { accessFlags := 25, nameIndex := 282, descriptorIndex := 25, attributes := #[] }, { accessFlags := 25, nameIndex := 284, descriptorIndex := 25, attributes := #[] }, { accessFlags := 25, nameIndex := 286, descriptorIndex := 25, attributes := #[] }, { accessFlags := 25, nameIndex := 288, descriptorIndex := 25, attributes := #[] }, { accessFlags := 25, nameIndex := 290, descriptorIndex := 25, attributes := #[] }, { accessFlags := 25, nameIndex := 292, descriptorIndex := 25, attributes := #[] }, { accessFlags := 26, nameIndex := 108, descriptorIndex := 109, attributes := #[] }, { accessFlags := 25, nameIndex := 294, descriptorIndex := 25, attributes := #[] }])
  fields := #[{ name := "U", type := (.object "jdk/internal/misc/Unsafe"), accessFlags := 24, slot := 0, constantValue := 0 }, { name := "BIG_ENDIAN", type := .boolean, accessFlags := 26, slot := 1, constantValue := 0 }, { name := "LOG2_ARRAY_BOOLEAN_INDEX_SCALE", type := .int, accessFlags := 25, slot := 2, constantValue := 0 }, { name := "LOG2_ARRAY_BYTE_INDEX_SCALE", type := .int, accessFlags := 25, slot := 3, constantValue := 0 }, { name := "LOG2_ARRAY_CHAR_INDEX_SCALE", type := .int, accessFlags := 25, slot := 4, constantValue := 0 }, { name := "LOG2_ARRAY_SHORT_INDEX_SCALE", type := .int, accessFlags := 25, slot := 5, constantValue := 0 }, { name := "LOG2_ARRAY_INT_INDEX_SCALE", type := .int, accessFlags := 25, slot := 6, constantValue := 0 }, { name := "LOG2_ARRAY_LONG_INDEX_SCALE", type := .int, accessFlags := 25, slot := 7, constantValue := 0 }, { name := "LOG2_ARRAY_FLOAT_INDEX_SCALE", type := .int, accessFlags := 25, slot := 8, constantValue := 0 }, { name := "LOG2_ARRAY_DOUBLE_INDEX_SCALE", type := .int, accessFlags := 25, slot := 9, constantValue := 0 }, { name := "LOG2_BYTE_BIT_SIZE", type := .int, accessFlags := 26, slot := 10, constantValue := 0 }, { name := "T_BOOLEAN", type := .int, accessFlags := 25, slot := 11, constantValue := 0 }, { name := "T_CHAR", type := .int, accessFlags := 25, slot := 12, constantValue := 0 }, { name := "T_FLOAT", type := .int, accessFlags := 25, slot := 13, constantValue := 0 }, { name := "T_DOUBLE", type := .int, accessFlags := 25, slot := 14, constantValue := 0 }, { name := "T_BYTE", type := .int, accessFlags := 25, slot := 15, constantValue := 0 }, { name := "T_SHORT", type := .int, accessFlags := 25, slot := 16, constantValue := 0 }, { name := "T_INT", type := .int, accessFlags := 25, slot := 17, constantValue := 0 }, { name := "T_LONG", type := .int, accessFlags := 25, slot := 18, constantValue := 0 }, { name := "JLA", type := (.object "jdk/internal/access/JavaLangAccess"), accessFlags := 26, slot := 19, constantValue := 0 }, { name := "SOFT_MAX_ARRAY_LENGTH", type := .int, accessFlags := 25, slot := 20, constantValue := 0 }]
  methods := #[k15m0]
  instanceTypes := #[]
  staticTypes := #[(.object "jdk/internal/misc/Unsafe"), .boolean, .int, .int, .int, .int, .int, .int, .int, .int, .int, .int, .int, .int, .int, .int, .int, .int, .int, (.object "jdk/internal/access/JavaLangAccess"), .int]
  resolved := Array.replicate 378 none
  statics := none }

def pool16 : Array CpInfo := pool [(1, u "java/lang/Cloneable"), (0, .class_ 1), (0, u "java/lang/Object"), (0, .class_ 3)] 3

/-- java/lang/Cloneable -/
def k16 : Class := { plain "java/lang/Cloneable" (some 0) with
  accessFlags := 1537
  interfaces := #[]
  cf := some (fileOf pool16 2 #[] #[] 1537 4 #[] #[])
  fields := #[]
  methods := #[]
  instanceTypes := #[]
  staticTypes := #[]
  resolved := Array.replicate 8 none
  statics := none }

/-- the primitive byte -/
def k17 : Class := { plain "byte" none with kind := .primitive 'B', accessFlags := 0x411 }
/-- [B -/
def k18 : Class := { plain "[B" (some 0) with kind := .array 17 .byte, interfaces := #[16, 2], accessFlags := 1041 }

/-- the primitive char -/
def k19 : Class := { plain "char" none with kind := .primitive 'C', accessFlags := 0x411 }
/-- [C -/
def k20 : Class := { plain "[C" (some 0) with kind := .array 19 .char, interfaces := #[16, 2], accessFlags := 1041 }

/-- the primitive int -/
def k21 : Class := { plain "int" none with kind := .primitive 'I', accessFlags := 0x411 }
/-- [I -/
def k22 : Class := { plain "[I" (some 0) with kind := .array 21 .int, interfaces := #[16, 2], accessFlags := 1041 }

def heap : Heap := #[{ cls := 7, slots := #[.long 0, .int 1, .null, .int 0, .null, .int 0, .int 0], vm := .statics 7 },
  { cls := 11, slots := #[.ref 3, .null, .null, .null], vm := .statics 11 },
  { cls := 14, slots := #[.null, .null, .null], vm := .statics 14 },
  { cls := 11, slots := #[.null, .int 0, .int 0], vm := .none }]
def classes : Array Class := #[k0, k1, k2, k3, k4, k5, k6, k7, k8, k9, k10, k11, k12, k13, k14, k15, k16, k17, k18, k19, k20, k21, k22]
def interned : List (Array UInt16 × Addr) := []
def slotsUsed : Nat := 17
def theMethod : MethodId := ⟨1, 2⟩
def args0 : Array Value := #[.int 5, .int 6, .int 7, .int 0]
def aboutOver (below : List Frame) : State where
  vm := { classes := classes, interned := interned.toArray }
  heap := heap
  slotsUsed := slotsUsed
  threads := #[{ frames := .invoking theMethod args0 :: below }]
def below0 : List Frame := [.native { method := ⟨0, 0⟩, args := #[] }]
def about1 : State := aboutOver below0
def p0 : Program := .bare "" "" ""
def e0 : Env := launch0.env 0 0 0
theorem w_frames : about1.frames = Frame.invoking theMethod args0 :: below0 := rfl
set_option maxRecDepth 65536 in
theorem w_args : argsFit about1.vm theMethod args0 = true := by decide +kernel
set_option maxRecDepth 65536 in
theorem w_heap : heapFits about1 = true := by decide +kernel
set_option maxRecDepth 65536 in
theorem w_runnable : about1.curStatus? = some .runnable := by decide +kernel
set_option maxRecDepth 65536 in
theorem w_alone : about1.alone = true := by decide +kernel
set_option maxRecDepth 65536 in
theorem w_named : about1.methodNamed? x = some theMethod := by decide +kernel
set_option maxRecDepth 65536 in
theorem w_hears : about1.hears theMethod below0 = true := by decide +kernel
set_option maxRecDepth 65536 in
theorem w_ripe : about1.ripe theMethod args0 below0 = true := by decide +kernel
theorem w_running : about1.status = .running := rfl
set_option maxRecDepth 65536 in
theorem w_room : about1.hasRoom e0.platform room_1 = true :=
  launch0.hasRoom_least _ room_1 (by decide +kernel) (by decide +kernel) (by decide +kernel) (by decide +kernel) (by decide +kernel) (by decide +kernel)
theorem allAtoms_all (ts : List Jvm.Cond) (a : Array Jvm.Value) (st : Jvm.State) : (allAtoms ts).before a st = ts.all (fun c => c.before a st) := by
  induction ts with
  | nil => rfl
  | cons c t ih =>
    show (Jvm.Cond.and c (allAtoms t)).before a st = _
    rw [Jvm.Cond.before_and, ih, List.all_cons]
def words1 : List Jvm.Cond := Jvm.Cond.code x code maxLocals ret :: tables_1
/-- a 'code' word, met by the world's own term for the bytes: nothing is compared byte by byte -/
theorem code_word {y : MethodName} {bytes : ByteArray} {mx : Nat} {rt : Option FieldType} {a : Array Value} {s : State} {m : MethodId} {meth : Method} {c : Code} (h1 : s.methodNamed? y = some m) (h2 : s.vm.method? m = some meth) (h3 : meth.code = some c) (h4 : c.code = bytes)
    (h5 : (c.maxLocals == mx && c.exceptionTable.isEmpty && decide (c.maxStack ≤ mostOperands) && decide (meth.sig.returnType = rt) && !meth.locks && decide (parseMethodDescriptor y.desc = some meth.sig)) = true) : (Jvm.Cond.code y bytes mx rt).before a s = true := by
  simp only [Bool.and_eq_true, beq_iff_eq, Bool.not_eq_true', decide_eq_true_eq] at h5
  obtain ⟨⟨⟨⟨⟨g1, g2⟩, g3⟩, g4⟩, g5⟩, g6⟩ := h5
  simp [Cond.before, Cond.holds, Cond.value, h1, h2, h3, h4, g1, g2, g3, g4, g5, g6]
def isCode : Jvm.Cond → Bool
  | .code _ _ _ _ => true
  | _ => false
theorem all_split {L : List Jvm.Cond} {P : Jvm.Cond → Bool} (h1 : L.all (fun c => isCode c || P c) = true) (h2 : ∀ c ∈ L.filter isCode, P c = true) : L.all P = true := by
  refine List.all_eq_true.mpr fun c hc => ?_
  have h := List.all_eq_true.mp h1 c hc
  rcases Bool.eq_false_or_eq_true (isCode c) with hi | hi
  · exact h2 c (List.mem_filter.mpr ⟨hc, hi⟩)
  · simpa [hi] using h
set_option maxRecDepth 65536 in
theorem w_c0 : (Jvm.Cond.code x code maxLocals ret).before args0 about1 = true := code_word (m := ⟨1, 2⟩) (meth := k1m2) (c := k1c2) (by decide +kernel) rfl rfl rfl (by decide +kernel)
set_option maxRecDepth 65536 in
theorem w_c1 : (Jvm.Cond.code ({ cls := "com/example/unified_lexicon/unifiedlexicon/formats/TermIriPinLaw", name := "drawn", desc := "(IIII)Ljava/lang/String;" } : Jvm.MethodName) method_2_code (8 : Nat) (Option.some (Jvm.ClassFile.FieldType.object "java/lang/String"))).before args0 about1 = true := code_word (m := ⟨1, 1⟩) (meth := k1m1) (c := k1c1) (by decide +kernel) rfl rfl rfl (by decide +kernel)
set_option maxRecDepth 65536 in
theorem w_c2 : (Jvm.Cond.code ({ cls := "java/lang/String", name := "<init>", desc := "([C)V" } : Jvm.MethodName) jdk_42_method_3_code (2 : Nat) (Option.none : Option Jvm.ClassFile.FieldType)).before args0 about1 = true := code_word (m := ⟨7, 1⟩) (meth := k7m1) (c := k7c1) (by decide +kernel) rfl rfl rfl (by decide +kernel)
set_option maxRecDepth 65536 in
theorem w_c3 : (Jvm.Cond.code ({ cls := "java/lang/String", name := "<init>", desc := "([CIILjava/lang/Void;)V" } : Jvm.MethodName) jdk_42_method_149_code (6 : Nat) (Option.none : Option Jvm.ClassFile.FieldType)).before args0 about1 = true := code_word (m := ⟨7, 4⟩) (meth := k7m4) (c := k7c4) (by decide +kernel) rfl rfl rfl (by decide +kernel)
set_option maxRecDepth 65536 in
theorem w_c4 : (Jvm.Cond.code ({ cls := "java/lang/Object", name := "<init>", desc := "()V" } : Jvm.MethodName) object_method_1_code (1 : Nat) (Option.none : Option Jvm.ClassFile.FieldType)).before args0 about1 = true := code_word (m := ⟨0, 0⟩) (meth := k0m0) (c := k0c0) (by decide +kernel) rfl rfl rfl (by decide +kernel)
set_option maxRecDepth 65536 in
theorem w_c5 : (Jvm.Cond.code ({ cls := "com/example/unified_lexicon/unifiedlexicon/formats/RdfXml$Term", name := "iri", desc := "(Ljava/lang/String;)Lcom/example/unified_lexicon/unifiedlexicon/formats/RdfXml$Term;" } : Jvm.MethodName) prog_45_method_2_code (1 : Nat) (Option.some (Jvm.ClassFile.FieldType.object "com/example/unified_lexicon/unifiedlexicon/formats/RdfXml$Term"))).before args0 about1 = true := code_word (m := ⟨9, 1⟩) (meth := k9m1) (c := k9c1) (by decide +kernel) rfl rfl rfl (by decide +kernel)
set_option maxRecDepth 65536 in
theorem w_c6 : (Jvm.Cond.code ({ cls := "com/example/unified_lexicon/unifiedlexicon/formats/RdfXml$Term", name := "<init>", desc := "(Lcom/example/unified_lexicon/unifiedlexicon/formats/RdfXml$Term$Kind;Ljava/lang/String;Ljava/lang/String;Ljava/lang/String;)V" } : Jvm.MethodName) prog_45_method_1_code (5 : Nat) (Option.none : Option Jvm.ClassFile.FieldType)).before args0 about1 = true := code_word (m := ⟨9, 0⟩) (meth := k9m0) (c := k9c0) (by decide +kernel) rfl rfl rfl (by decide +kernel)
set_option maxRecDepth 65536 in
theorem w_c7 : (Jvm.Cond.code ({ cls := "java/lang/Record", name := "<init>", desc := "()V" } : Jvm.MethodName) jdk_30_method_1_code (1 : Nat) (Option.none : Option Jvm.ClassFile.FieldType)).before args0 about1 = true := code_word (m := ⟨8, 0⟩) (meth := k8m0) (c := k8c0) (by decide +kernel) rfl rfl rfl (by decide +kernel)
set_option maxRecDepth 65536 in
theorem w_c8 : (Jvm.Cond.code ({ cls := "com/example/unified_lexicon/unifiedlexicon/formats/RdfXml$Term", name := "kind", desc := "()Lcom/example/unified_lexicon/unifiedlexicon/formats/RdfXml$Term$Kind;" } : Jvm.MethodName) prog_45_method_6_code (1 : Nat) (Option.some (Jvm.ClassFile.FieldType.object "com/example/unified_lexicon/unifiedlexicon/formats/RdfXml$Term$Kind"))).before args0 about1 = true := code_word (m := ⟨9, 2⟩) (meth := k9m2) (c := k9c2) (by decide +kernel) rfl rfl rfl (by decide +kernel)
set_option maxRecDepth 65536 in
theorem w_c9 : (Jvm.Cond.code ({ cls := "com/example/unified_lexicon/unifiedlexicon/formats/RdfXml$Term", name := "value", desc := "()Ljava/lang/String;" } : Jvm.MethodName) prog_45_method_7_code (1 : Nat) (Option.some (Jvm.ClassFile.FieldType.object "java/lang/String"))).before args0 about1 = true := code_word (m := ⟨9, 3⟩) (meth := k9m3) (c := k9c3) (by decide +kernel) rfl rfl rfl (by decide +kernel)
set_option maxRecDepth 65536 in
theorem w_c10 : (Jvm.Cond.code ({ cls := "java/lang/String", name := "length", desc := "()I" } : Jvm.MethodName) jdk_42_method_54_code (1 : Nat) (Option.some Jvm.ClassFile.FieldType.int)).before args0 about1 = true := code_word (m := ⟨7, 2⟩) (meth := k7m2) (c := k7c2) (by decide +kernel) rfl rfl rfl (by decide +kernel)
set_option maxRecDepth 65536 in
theorem w_c11 : (Jvm.Cond.code ({ cls := "java/lang/String", name := "coder", desc := "()B" } : Jvm.MethodName) jdk_42_method_152_code (1 : Nat) (Option.some Jvm.ClassFile.FieldType.byte)).before args0 about1 = true := code_word (m := ⟨7, 5⟩) (meth := k7m5) (c := k7c5) (by decide +kernel) rfl rfl rfl (by decide +kernel)
set_option maxRecDepth 65536 in
theorem w_c12 : (Jvm.Cond.code ({ cls := "java/lang/String", name := "equals", desc := "(Ljava/lang/Object;)Z" } : Jvm.MethodName) jdk_42_method_66_code (3 : Nat) (Option.some Jvm.ClassFile.FieldType.boolean)).before args0 about1 = true := code_word (m := ⟨7, 3⟩) (meth := k7m3) (c := k7c3) (by decide +kernel) rfl rfl rfl (by decide +kernel)
set_option maxRecDepth 65536 in
theorem w_c13 : (Jvm.Cond.code ({ cls := "com/example/unified_lexicon/unifiedlexicon/formats/RdfXml$Term", name := "language", desc := "()Ljava/lang/String;" } : Jvm.MethodName) prog_45_method_8_code (1 : Nat) (Option.some (Jvm.ClassFile.FieldType.object "java/lang/String"))).before args0 about1 = true := code_word (m := ⟨9, 4⟩) (meth := k9m4) (c := k9c4) (by decide +kernel) rfl rfl rfl (by decide +kernel)
set_option maxRecDepth 65536 in
theorem w_c14 : (Jvm.Cond.code ({ cls := "com/example/unified_lexicon/unifiedlexicon/formats/RdfXml$Term", name := "datatype", desc := "()Ljava/lang/String;" } : Jvm.MethodName) prog_45_method_9_code (1 : Nat) (Option.some (Jvm.ClassFile.FieldType.object "java/lang/String"))).before args0 about1 = true := code_word (m := ⟨9, 5⟩) (meth := k9m5) (c := k9c5) (by decide +kernel) rfl rfl rfl (by decide +kernel)
set_option maxRecDepth 65536 in
theorem w_c15 : (Jvm.Cond.code ({ cls := "java/lang/StringUTF16", name := "compress", desc := "([CII)[B" } : Jvm.MethodName) jdk_52_method_16_code (6 : Nat) (Option.some (Jvm.ClassFile.FieldType.array Jvm.ClassFile.FieldType.byte))).before args0 about1 = true := code_word (m := ⟨12, 2⟩) (meth := k12m2) (c := k12c2) (by decide +kernel) rfl rfl rfl (by decide +kernel)
set_option maxRecDepth 65536 in
theorem w_c16 : (Jvm.Cond.code ({ cls := "java/lang/StringUTF16", name := "compress", desc := "([CI[BII)I" } : Jvm.MethodName) jdk_52_method_21_code (7 : Nat) (Option.some Jvm.ClassFile.FieldType.int)).before args0 about1 = true := code_word (m := ⟨12, 3⟩) (meth := k12m3) (c := k12c3) (by decide +kernel) rfl rfl rfl (by decide +kernel)
set_option maxRecDepth 65536 in
theorem w_c17 : (Jvm.Cond.code ({ cls := "java/lang/StringUTF16", name := "coderFromArrayLen", desc := "([BI)B" } : Jvm.MethodName) jdk_52_method_15_code (2 : Nat) (Option.some Jvm.ClassFile.FieldType.byte)).before args0 about1 = true := code_word (m := ⟨12, 1⟩) (meth := k12m1) (c := k12c1) (by decide +kernel) rfl rfl rfl (by decide +kernel)
def codes1 : List Jvm.Cond := [Jvm.Cond.code x code maxLocals ret, Jvm.Cond.code ({ cls := "com/example/unified_lexicon/unifiedlexicon/formats/TermIriPinLaw", name := "drawn", desc := "(IIII)Ljava/lang/String;" } : Jvm.MethodName) method_2_code (8 : Nat) (Option.some (Jvm.ClassFile.FieldType.object "java/lang/String")), Jvm.Cond.code ({ cls := "java/lang/String", name := "<init>", desc := "([C)V" } : Jvm.MethodName) jdk_42_method_3_code (2 : Nat) (Option.none : Option Jvm.ClassFile.FieldType), Jvm.Cond.code ({ cls := "java/lang/String", name := "<init>", desc := "([CIILjava/lang/Void;)V" } : Jvm.MethodName) jdk_42_method_149_code (6 : Nat) (Option.none : Option Jvm.ClassFile.FieldType), Jvm.Cond.code ({ cls := "java/lang/Object", name := "<init>", desc := "()V" } : Jvm.MethodName) object_method_1_code (1 : Nat) (Option.none : Option Jvm.ClassFile.FieldType), Jvm.Cond.code ({ cls := "com/example/unified_lexicon/unifiedlexicon/formats/RdfXml$Term", name := "iri", desc := "(Ljava/lang/String;)Lcom/example/unified_lexicon/unifiedlexicon/formats/RdfXml$Term;" } : Jvm.MethodName) prog_45_method_2_code (1 : Nat) (Option.some (Jvm.ClassFile.FieldType.object "com/example/unified_lexicon/unifiedlexicon/formats/RdfXml$Term")), Jvm.Cond.code ({ cls := "com/example/unified_lexicon/unifiedlexicon/formats/RdfXml$Term", name := "<init>", desc := "(Lcom/example/unified_lexicon/unifiedlexicon/formats/RdfXml$Term$Kind;Ljava/lang/String;Ljava/lang/String;Ljava/lang/String;)V" } : Jvm.MethodName) prog_45_method_1_code (5 : Nat) (Option.none : Option Jvm.ClassFile.FieldType), Jvm.Cond.code ({ cls := "java/lang/Record", name := "<init>", desc := "()V" } : Jvm.MethodName) jdk_30_method_1_code (1 : Nat) (Option.none : Option Jvm.ClassFile.FieldType), Jvm.Cond.code ({ cls := "com/example/unified_lexicon/unifiedlexicon/formats/RdfXml$Term", name := "kind", desc := "()Lcom/example/unified_lexicon/unifiedlexicon/formats/RdfXml$Term$Kind;" } : Jvm.MethodName) prog_45_method_6_code (1 : Nat) (Option.some (Jvm.ClassFile.FieldType.object "com/example/unified_lexicon/unifiedlexicon/formats/RdfXml$Term$Kind")), Jvm.Cond.code ({ cls := "com/example/unified_lexicon/unifiedlexicon/formats/RdfXml$Term", name := "value", desc := "()Ljava/lang/String;" } : Jvm.MethodName) prog_45_method_7_code (1 : Nat) (Option.some (Jvm.ClassFile.FieldType.object "java/lang/String")), Jvm.Cond.code ({ cls := "java/lang/String", name := "length", desc := "()I" } : Jvm.MethodName) jdk_42_method_54_code (1 : Nat) (Option.some Jvm.ClassFile.FieldType.int), Jvm.Cond.code ({ cls := "java/lang/String", name := "coder", desc := "()B" } : Jvm.MethodName) jdk_42_method_152_code (1 : Nat) (Option.some Jvm.ClassFile.FieldType.byte), Jvm.Cond.code ({ cls := "java/lang/String", name := "equals", desc := "(Ljava/lang/Object;)Z" } : Jvm.MethodName) jdk_42_method_66_code (3 : Nat) (Option.some Jvm.ClassFile.FieldType.boolean), Jvm.Cond.code ({ cls := "com/example/unified_lexicon/unifiedlexicon/formats/RdfXml$Term", name := "language", desc := "()Ljava/lang/String;" } : Jvm.MethodName) prog_45_method_8_code (1 : Nat) (Option.some (Jvm.ClassFile.FieldType.object "java/lang/String")), Jvm.Cond.code ({ cls := "com/example/unified_lexicon/unifiedlexicon/formats/RdfXml$Term", name := "datatype", desc := "()Ljava/lang/String;" } : Jvm.MethodName) prog_45_method_9_code (1 : Nat) (Option.some (Jvm.ClassFile.FieldType.object "java/lang/String")), Jvm.Cond.code ({ cls := "java/lang/StringUTF16", name := "compress", desc := "([CII)[B" } : Jvm.MethodName) jdk_52_method_16_code (6 : Nat) (Option.some (Jvm.ClassFile.FieldType.array Jvm.ClassFile.FieldType.byte)), Jvm.Cond.code ({ cls := "java/lang/StringUTF16", name := "compress", desc := "([CI[BII)I" } : Jvm.MethodName) jdk_52_method_21_code (7 : Nat) (Option.some Jvm.ClassFile.FieldType.int), Jvm.Cond.code ({ cls := "java/lang/StringUTF16", name := "coderFromArrayLen", desc := "([BI)B" } : Jvm.MethodName) jdk_52_method_15_code (2 : Nat) (Option.some Jvm.ClassFile.FieldType.byte)]
set_option maxRecDepth 65536 in
theorem codes_eq : words1.filter isCode = codes1 := rfl
theorem w_codes : ∀ c ∈ words1.filter isCode, c.before args0 about1 = true := by
  rw [codes_eq]
  intro c hc
  simp only [codes1, List.mem_cons, List.not_mem_nil, or_false] at hc
  rcases hc with rfl | rfl | rfl | rfl | rfl | rfl | rfl | rfl | rfl | rfl | rfl | rfl | rfl | rfl | rfl | rfl | rfl | rfl
  · exact w_c0
  · exact w_c1
  · exact w_c2
  · exact w_c3
  · exact w_c4
  · exact w_c5
  · exact w_c6
  · exact w_c7
  · exact w_c8
  · exact w_c9
  · exact w_c10
  · exact w_c11
  · exact w_c12
  · exact w_c13
  · exact w_c14
  · exact w_c15
  · exact w_c16
  · exact w_c17
set_option maxRecDepth 65536 in
theorem w_t1 : (words1.take 24).all (fun c => isCode c || c.before args0 about1) = true := by decide +kernel
set_option maxRecDepth 65536 in
theorem w_t2 : ((words1.drop 24).take 24).all (fun c => isCode c || c.before args0 about1) = true := by decide +kernel
set_option maxRecDepth 65536 in
theorem w_t3 : (((words1.drop 24).drop 24).take 24).all (fun c => isCode c || c.before args0 about1) = true := by decide +kernel
set_option maxRecDepth 65536 in
theorem w_t4 : ((((words1.drop 24).drop 24).drop 24).take 24).all (fun c => isCode c || c.before args0 about1) = true := by decide +kernel
set_option maxRecDepth 65536 in
theorem w_t5 : ((((words1.drop 24).drop 24).drop 24).drop 24).all (fun c => isCode c || c.before args0 about1) = true := by decide +kernel
theorem w_tables : (allAtoms (Jvm.Cond.code x code maxLocals ret :: tables_1)).before args0 about1 = true := by
  rw [allAtoms_all]
  show words1.all (fun c => c.before args0 about1) = true
  refine all_split ?_ w_codes
  rw [← List.take_append_drop 24 words1, List.all_append, w_t1, ← List.take_append_drop 24 (words1.drop 24), List.all_append, w_t2, ← List.take_append_drop 24 ((words1.drop 24).drop 24), List.all_append, w_t3, ← List.take_append_drop 24 (((words1.drop 24).drop 24).drop 24), List.all_append, w_t4, w_t5]
  rfl
set_option maxRecDepth 65536 in
theorem w_rest : rest_1_c.before args0 about1 = true := by decide +kernel
set_option maxRecDepth 65536 in
theorem w_case : (Jvm.Cond.and given_1 narrow_1).before args0 about1 = true := by decide +kernel
set_option maxRecDepth 65536 in
theorem w_consts : constsHeld consts_1 about1 := Jvm.Lit.constsHeldB_iff.mp (by decide +kernel)
theorem w_applies : (headSpec (Jvm.Cond.code x code maxLocals ret :: tables_1) room_1).applies x e0.platform about1 = true :=
  (Spec.applies_iff w_frames).mpr ⟨w_running, w_runnable, w_alone, w_named, w_hears, w_ripe, w_room, w_tables⟩
theorem atStart : AtStart classFile x code maxLocals ret World_1 tables_1 room_1 Calls_1 rest_1 Pre_1 launch0 p0 e0 about1 theMethod args0 below0 :=
  ⟨lists_1, trivial, launch0.admits_env _ _ _, launch0.least_env, fairChoices_fair.cas, fairChoices_fair.clock, w_frames, w_args, w_heap, w_applies, ⟨w_consts, trivial⟩, w_rest, w_case⟩
end start1
theorem witness_1 : WitnessClaimed_1 := ⟨start1.p0, start1.e0, start1.about1, start1.theMethod, start1.args0, start1.below0, start1.atStart⟩
end Jvm.Pilot.@@N@@
